import JvmDerived
import JvmDerived.Pilot.@@N@@Statement
import JvmDerived.Pilot.@@N@@Code
set_option linter.unusedVariables false
set_option linter.unusedSimpArgs false
namespace Jvm.Pilot.@@N@@
open Jvm Jvm.ClassFile Sem Op Lib Jvm.Free Jvm.Stand Jvm.LawKit Jvm.RoadKit Bundle Jvm.Pilot.@@N@@.Jvm.D
/-- the run from U comes to a return whose value, heap and written places Q takes; it has made at most kc cells of ks slots -/
def own_Go (p : Program) (e : Env) (below : List Frame) (s : State) (Q : Option Value → Heap → List Loc → Prop) (kc ks : Nat) (U : State) : Prop :=
  ∃ t o, Steps p.tables e below U t ∧ t.status = .running ∧ Ended t below o ∧ ∃ v L, o = .returned v ∧ Q v t.heap L ∧ FrameEnd s o t L kc ks
section OwnKit
variable {p : Program} {l : Launch} {e : Env} {R : Room} {s : State} {m : MethodId} {args : Array Value} {below : List Frame} {meth : Method} {c : Code} {T : State} {locs : List Loc} {cells slots kc ks : Nat} {Z : State} {a0 : Array Value} {h : Heap} {Q : Option Value → Heap → List Loc → Prop}
theorem own_go {U U' : State} (f : ∀ t, Steps p.tables e below U' t → Steps p.tables e below U t) (g : own_Go p e below s Q kc ks U') : own_Go p e below s Q kc ks U := by
  obtain ⟨t, o, a, r⟩ := g
  exact ⟨t, o, f t a, r⟩
theorem own_end (X : Stand p l e R s m args below meth c T locs cells slots) (hlk : meth.locks = false) (eT : T.heap = h) {v : Option Value} (hv : meth.sig.returnType = none → v = none) (hc : cells ≤ kc) (hs : slots ≤ ks) (hq : Q v h locs) {U : State}
    (hst : ∀ fs, (∀ (f : JFrame) (acts : List Action), f.method = m → f.locked = none → f.entered = [] → (doReturn e (T.setTop f) acts v).1 = T.setFrames fs) → Steps p.tables e below U (T.setFrames fs)) : own_Go p e below s Q kc ks U := by
  obtain ⟨fs, hr, hrun, hended, hW, hsame⟩ := X.leave (v := v) hv hlk
  refine ⟨_, _, hst fs hr, hrun, hended, v, locs, rfl, ?_, ⟨v, rfl⟩, hW, hsame.mono hc hs⟩
  show Q v T.heap locs
  rw [eT]; exact hq
theorem own_retN (X : Stand p l e R s m args below meth c T locs cells slots) (hx : p.tables.exec = Jvm.exec) (hlk : meth.locks = false) (eT : T.heap = h) {pc : Nat} {Ls : Array Slot} {z : Int32} {t : FieldType} {rest : List Value} (hret : meth.sig.returnType = some t) (ht : t = .boolean ∨ t = .byte ∨ t = .char ∨ t = .short)
    (hd : decode c.code pc = .ok (.ireturn, 1)) (hc : cells ≤ kc) (hs : slots ≤ ks) (hq : Q (some (.int (nar t z))) h locs) : own_Go p e below s Q kc ks (T.setTop (mkF m pc Ls (.int z :: rest))) :=
  own_end X hlk eT (fun q => by rw [hret] at q; cases q) hc hs hq fun fs hr => retN X hx hret ht hd hr
theorem own_retI (X : Stand p l e R s m args below meth c T locs cells slots) (hx : p.tables.exec = Jvm.exec) (hlk : meth.locks = false) (eT : T.heap = h) {pc : Nat} {Ls : Array Slot} {z : Int32} {rest : List Value} (hret : meth.sig.returnType = some .int)
    (hd : decode c.code pc = .ok (.ireturn, 1)) (hc : cells ≤ kc) (hs : slots ≤ ks) (hq : Q (some (.int z)) h locs) : own_Go p e below s Q kc ks (T.setTop (mkF m pc Ls (.int z :: rest))) :=
  own_end X hlk eT (fun q => by rw [hret] at q; cases q) hc hs hq fun fs hr => retOut X hx hret rfl (Or.inl ⟨rfl, Or.inl rfl, z, rfl⟩) hd hr
theorem own_retJ (X : Stand p l e R s m args below meth c T locs cells slots) (hx : p.tables.exec = Jvm.exec) (hlk : meth.locks = false) (eT : T.heap = h) {pc : Nat} {Ls : Array Slot} {z : Int64} {rest : List Value} (hret : meth.sig.returnType = some .long)
    (hd : decode c.code pc = .ok (.lreturn, 1)) (hc : cells ≤ kc) (hs : slots ≤ ks) (hq : Q (some (.long z)) h locs) : own_Go p e below s Q kc ks (T.setTop (mkF m pc Ls (.long z :: rest))) :=
  own_end X hlk eT (fun q => by rw [hret] at q; cases q) hc hs hq fun fs hr => retOut X hx hret rfl (Or.inr (Or.inl ⟨rfl, rfl, z, rfl⟩)) hd hr
theorem own_retA (X : Stand p l e R s m args below meth c T locs cells slots) (hx : p.tables.exec = Jvm.exec) (hlk : meth.locks = false) (eT : T.heap = h) {pc : Nat} {Ls : Array Slot} {v : Value} {t : FieldType} {rest : List Value} (hret : meth.sig.returnType = some t) (ht : t.isReference = true) (hv : v.isRef = true)
    (hd : decode c.code pc = .ok (.areturn, 1)) (hc : cells ≤ kc) (hs : slots ≤ ks) (hq : Q (some v) h locs) : own_Go p e below s Q kc ks (T.setTop (mkF m pc Ls (v :: rest))) :=
  own_end X hlk eT (fun q => by rw [hret] at q; cases q) hc hs hq fun fs hr => retOut X hx hret (by cases t <;> first | (cases ht; done) | (rcases ref_cases hv with rfl | ⟨_, rfl⟩ <;> rfl)) (Or.inr (Or.inr (Or.inr (Or.inr ⟨rfl, ht, hv⟩)))) hd hr
theorem own_retV (X : Stand p l e R s m args below meth c T locs cells slots) (hx : p.tables.exec = Jvm.exec) (hlk : meth.locks = false) (eT : T.heap = h) {pc : Nat} {Ls : Array Slot} (hret : meth.sig.returnType = none)
    (hd : decode c.code pc = .ok (.return_, 1)) (hc : cells ≤ kc) (hs : slots ≤ ks) (hq : Q none h locs) : own_Go p e below s Q kc ks (T.setTop (mkF m pc Ls [])) :=
  own_end X hlk eT (fun _ => rfl) hc hs hq fun fs hr => X.returnOut hx hret hd hr
/-- a body's contract out of its walk -/
theorem own_met {y : MethodName} {bytes : ByteArray} {maxL : Nat} {ret : Option FieldType} {ws : List Jvm.Cond} {rm : Room} {as' : Array Value} (kc ks : Nat) (hpl : plainFor y = true)
    (body : ∀ (p : Program) (e : Env) (s : State) (m : MethodId) (below : List Frame) (meth : Method) (c : Code) (T : State), Stand p l e rm s m as' below meth c T [] 0 0 → p.tables.exec = Jvm.exec → c.code = bytes → c.maxLocals = maxL → meth.sig.returnType = ret → meth.locks = false → Z.Warmed39 s.vm → s.vm.findClass y.cls = some m.cls → meth.name = y.name → T.heap = h →
      own_Go p e below s Q kc ks (T.setTop (entryFrame m as' maxL))) :
    MetFree l y (head1 (Jvm.Cond.code y bytes maxL ret :: ws) rm) (fun a U => a = as' ∧ Z.Warmed39 U.vm ∧ U.heap = h) (fun _ _ _ _ _ => True) (fun _ U o U' => ∃ v L, o = .returned v ∧ Q v U'.heap L ∧ FrameEnd U o U' L kc ks) := by
  refine MetFree.of_bodySF hpl hisR ?_
  intro p e s m args below meth c s₁ Bd hml hP hK
  obtain ⟨rfl, hZ, hh⟩ := hP
  obtain ⟨t, o, h1, h2, h3, h4⟩ := body p e s m below meth c s₁ (Stand.of_body Bd) Bd.exec Bd.bytes hml Bd.returns Bd.notSynchronized hZ (findClass_of_methodNamed Bd.named) (name_of_methodNamed Bd.named Bd.method).1 (by rw [← hh, Bd.state]; rfl)
  exact ⟨t, o, h1, h2, h3, h4⟩
abbrev own_Met (l : Launch) (Z : State) (h : Heap) (y : MethodName) (bytes : ByteArray) (maxL : Nat) (ret : Option FieldType) (rm : Room) (as' : Array Value) (Q : Option Value → Heap → List Loc → Prop) : Prop :=
  MetFree l y (head1 [Jvm.Cond.code y bytes maxL ret] rm) (fun a U => a = as' ∧ Z.Warmed39 U.vm ∧ U.heap = h) (fun _ _ _ _ _ => True) (fun _ U o U' => ∃ v L, o = .returned v ∧ Q v U'.heap L ∧ FrameEnd U o U' L rm.cells rm.slots)
abbrev own_MF (l : Launch) (Z : State) (h : Heap) (y : MethodName) (bytes : ByteArray) (maxL : Nat) (ret : Option FieldType) (rm : Room) (as' : Array Value) (Q : Option Value → Heap → List Loc → Prop) (ws : List Jvm.Cond) : Prop :=
  MetFree l y (head1 (Jvm.Cond.code y bytes maxL ret :: ws) rm) (fun a U => a = as' ∧ Z.Warmed39 U.vm ∧ U.heap = h) (fun _ _ _ _ _ => True) (fun _ U o U' => ∃ v L, o = .returned v ∧ Q v U'.heap L ∧ FrameEnd U o U' L rm.cells rm.slots)
theorem own_callS {y : MethodName} {bytes : ByteArray} {maxL : Nat} {ret : Option FieldType} {rm : Room} {as' : Array Value} {own : String} {index : Nat} (X : Stand p l e R s m args below meth c T locs cells slots) (hx : p.tables.exec = Jvm.exec) (hZ : Z.Warmed39 s.vm) (hown : s.vm.findClass own = some m.cls)
    (w1 : (Jvm.Cond.methodLink own index y).before a0 Z = true) (w2 : (Jvm.Cond.static y).before a0 Z = true) (w3 : (Jvm.Cond.initialized y.cls).before a0 Z = true) (w4 : (Jvm.Cond.code y bytes maxL ret).before a0 Z = true) (hM : own_Met l Z h y bytes maxL ret rm as' Q) (W : Nat) (nc ns : Nat) 
    (hc : cells + nc ≤ R.cells) (hs : slots + ns ≤ R.slots) (eT : T.heap = h) {g : JFrame} (hg : g.method = m) (hsize : g.locals.size = c.maxLocals)
    (argsL rest : List Value) (hlen : ∀ sig, parseMethodDescriptor y.desc = some sig → argsL.length = sig.parameters.length) (hstack : g.stack = argsL.reverse ++ rest) (has : argsL.toArray = as') (hdg : decode c.code g.pc = .ok (.invokestatic index, 3))
    (hy : y.cls ≠ "java/lang/invoke/MethodHandle" ∧ y.cls ≠ "java/lang/invoke/VarHandle" := by decide) (hf : rm.frames + 1 ≤ R.frames := by decide) (hl : W + (maxL + 11) + rm.locals ≤ R.locals := by decide) (hW : 2 * g.monitorRoom + (rest.map fun v => v.category).sum ≤ W := by exact Nat.le_of_eq rfl) (hnc : rm.cells = nc := by rfl) (hns : rm.slots = ns := by rfl) :
    ∃ v T' L, Stand p l e R s m args below meth c T' (locs ++ L) (cells + nc) (slots + ns) ∧ Q v T'.heap L ∧ ∀ target, Steps p.tables e below (T'.setTop { g with pc := g.pc + 3, stack := v.toList ++ rest }) target → Steps p.tables e below (T.setTop g) target := by
  subst hnc hns
  obtain ⟨v, _, ⟨T', L', k', n'⟩, -, X', ⟨L, hQ, h1, h2, h3⟩, st⟩ := Jvm.LawKit.callS X hx hown (mvT hZ w1) (mvT hZ w2) (mvT hZ w3) (mvT hZ w4) hy (backOf (W := W) hM hZ w4 w3 hf hl) hg hsize hlen hstack hW hdg (fun _ _ => ⟨has, eT, hc, hs⟩)
  dsimp only [Pt.U, Pt.locs, Pt.cells, Pt.slots] at X' hQ h1 h2 h3 st
  subst h1 h2 h3
  exact ⟨v, T', L, X', hQ, st⟩
theorem own_callI {y : MethodName} {bytes : ByteArray} {maxL : Nat} {rm : Room} {as' : Array Value} {own : String} {index : Nat} (X : Stand p l e R s m args below meth c T locs cells slots) (hx : p.tables.exec = Jvm.exec) (hZ : Z.Warmed39 s.vm) (hown : s.vm.findClass own = some m.cls)
    (w1 : (Jvm.Cond.methodLink own index y).before a0 Z = true) (w2 : (Jvm.Cond.instanceMethod y).before a0 Z = true) (w3 : (Jvm.Cond.initialized y.cls).before a0 Z = true) (w4 : (Jvm.Cond.code y bytes maxL none).before a0 Z = true) (hM : own_Met l Z h y bytes maxL none rm as' Q) (W : Nat) (nc ns : Nat) (hy1 : y.name = "<init>")
    (hc : cells + nc ≤ R.cells) (hs : slots + ns ≤ R.slots) (eT : T.heap = h) {g : JFrame} (hg : g.method = m) (hsize : g.locals.size = c.maxLocals)
    (a : Addr) (argsL rest : List Value) (hlen : ∀ sig, parseMethodDescriptor y.desc = some sig → argsL.length = sig.parameters.length) (hstack : g.stack = argsL.reverse ++ .ref a :: rest) (has : (Value.ref a :: argsL).toArray = as') (hdg : decode c.code g.pc = .ok (.invokespecial index, 3))
    (hy : y.cls ≠ "java/lang/invoke/MethodHandle" ∧ y.cls ≠ "java/lang/invoke/VarHandle" := by decide) (hf : rm.frames + 1 ≤ R.frames := by decide) (hl : W + (maxL + 11) + rm.locals ≤ R.locals := by decide) (hW : 2 * g.monitorRoom + (rest.map fun v => v.category).sum ≤ W := by exact Nat.le_of_eq rfl) (hnc : rm.cells = nc := by rfl) (hns : rm.slots = ns := by rfl) :
    ∃ v T' L, Stand p l e R s m args below meth c T' (locs ++ L) (cells + nc) (slots + ns) ∧ Q v T'.heap L ∧ ∀ target, Steps p.tables e below (T'.setTop { g with pc := g.pc + 3, stack := v.toList ++ rest }) target → Steps p.tables e below (T.setTop g) target := by
  subst hnc hns
  obtain ⟨v, _, ⟨T', L', k', n'⟩, -, X', ⟨L, hQ, h1, h2, h3⟩, st⟩ := X.specialBack hx hy1 hown (mvT hZ w1) (mvT hZ w2) (mvT hZ w4) hy (backOf (W := W) hM hZ w4 w3 hf hl) hg hsize (Steps.refl _) (a := a) (argsL := argsL) (rest := rest) hlen hstack hW hdg (fun _ _ => ⟨has, eT, hc, hs⟩)
  dsimp only [Pt.U, Pt.locs, Pt.cells, Pt.slots] at X' hQ h1 h2 h3 st
  subst h1 h2 h3
  exact ⟨v, T', L, X', hQ, fun _ k => st.trans k⟩
theorem own_callV {y z : MethodName} {bytes : ByteArray} {maxL : Nat} {ret : Option FieldType} {rm : Room} {as' : Array Value} {own C : String} {index : Nat} (X : Stand p l e R s m args below meth c T locs cells slots) (hx : p.tables.exec = Jvm.exec) (hZ : Z.Warmed39 s.vm) (hown : s.vm.findClass own = some m.cls)
    (w1 : (Jvm.Cond.methodLink own index y).before a0 Z = true) (wd : (Jvm.Cond.declares y).before a0 Z = true) (nf : NotFace s y) (wsel : (Jvm.Cond.selects C y z).before a0 Z = true) (w2 : (Jvm.Cond.instanceMethod z).before a0 Z = true) (w3 : (Jvm.Cond.initialized z.cls).before a0 Z = true) (w4 : (Jvm.Cond.code z bytes maxL ret).before a0 Z = true) (hM : own_Met l Z h z bytes maxL ret rm as' Q) (W : Nat) (nc ns : Nat) 
    (hc : cells + nc ≤ R.cells) (hs : slots + ns ≤ R.slots) (eT : T.heap = h) {a : Addr} (E : Exa Z h a C) {g : JFrame} (hg : g.method = m) (hsize : g.locals.size = c.maxLocals)
    (argsL rest : List Value) (hlen : ∀ sig, parseMethodDescriptor y.desc = some sig → argsL.length = sig.parameters.length) (hstack : g.stack = argsL.reverse ++ .ref a :: rest) (has : (Value.ref a :: argsL).toArray = as') (hdg : decode c.code g.pc = .ok (.invokevirtual index, 3))
    (hy : y.cls ≠ "java/lang/invoke/MethodHandle" ∧ y.cls ≠ "java/lang/invoke/VarHandle" := by decide) (hf : rm.frames + 1 ≤ R.frames := by decide) (hl : W + (maxL + 11) + rm.locals ≤ R.locals := by decide) (hW : 2 * g.monitorRoom + (rest.map fun v => v.category).sum ≤ W := by exact Nat.le_of_eq rfl) (hnc : rm.cells = nc := by rfl) (hns : rm.slots = ns := by rfl) :
    ∃ v T' L, Stand p l e R s m args below meth c T' (locs ++ L) (cells + nc) (slots + ns) ∧ Q v T'.heap L ∧ ∀ target, Steps p.tables e below (T'.setTop { g with pc := g.pc + 3, stack := v.toList ++ rest }) target → Steps p.tables e below (T.setTop g) target := by
  subst hnc hns
  obtain ⟨cq, kq, qa, qb, qc⟩ := isOf hZ eT E
  obtain ⟨v, _, ⟨T', L', k', n'⟩, -, X', ⟨L, hQ, h1, h2, h3⟩, st⟩ := X.virtualBack hx hown (mvT hZ w1) (mvT hZ wd) nf (mvT hZ wsel) (mvT hZ w2) hy (backOf (W := W) hM hZ w4 w3 hf hl) qa qc hg hsize (Steps.refl _) (argsL := argsL) (rest := rest) hlen hstack hW hdg (fun _ _ => ⟨has, eT, hc, hs⟩)
  dsimp only [Pt.U, Pt.locs, Pt.cells, Pt.slots] at X' hQ h1 h2 h3 st
  subst h1 h2 h3
  exact ⟨v, T', L, X', hQ, fun _ k => st.trans k⟩
theorem own_callP {y : MethodName} {bytes : ByteArray} {maxL : Nat} {ret : Option FieldType} {rm : Room} {as' : Array Value} {own C : String} {index : Nat} (X : Stand p l e R s m args below meth c T locs cells slots) (hx : p.tables.exec = Jvm.exec) (hZ : Z.Warmed39 s.vm) (hown : s.vm.findClass own = some m.cls)
    (w1 : (Jvm.Cond.methodLink own index y).before a0 Z = true) (w2 : (Jvm.Cond.instanceMethod y).before a0 Z = true) (wsel : (Jvm.Cond.selects y.cls y y).before a0 Z = true) (wp : (Jvm.Cond.privateMethod y).before a0 Z = true) (w3 : (Jvm.Cond.initialized y.cls).before a0 Z = true) (w4 : (Jvm.Cond.code y bytes maxL ret).before a0 Z = true) (hM : own_Met l Z h y bytes maxL ret rm as' Q) (W : Nat) (nc ns : Nat) 
    (hc : cells + nc ≤ R.cells) (hs : slots + ns ≤ R.slots) (eT : T.heap = h) {a : Addr} (E : Exa Z h a C) {g : JFrame} (hg : g.method = m) (hsize : g.locals.size = c.maxLocals)
    (argsL rest : List Value) (hlen : ∀ sig, parseMethodDescriptor y.desc = some sig → argsL.length = sig.parameters.length) (hstack : g.stack = argsL.reverse ++ .ref a :: rest) (has : (Value.ref a :: argsL).toArray = as') (hdg : decode c.code g.pc = .ok (.invokevirtual index, 3))
    (hy : y.cls ≠ "java/lang/invoke/MethodHandle" ∧ y.cls ≠ "java/lang/invoke/VarHandle" := by decide) (hf : rm.frames + 1 ≤ R.frames := by decide) (hl : W + (maxL + 11) + rm.locals ≤ R.locals := by decide) (hW : 2 * g.monitorRoom + (rest.map fun v => v.category).sum ≤ W := by exact Nat.le_of_eq rfl) (hnc : rm.cells = nc := by rfl) (hns : rm.slots = ns := by rfl) :
    ∃ v T' L, Stand p l e R s m args below meth c T' (locs ++ L) (cells + nc) (slots + ns) ∧ Q v T'.heap L ∧ ∀ target, Steps p.tables e below (T'.setTop { g with pc := g.pc + 3, stack := v.toList ++ rest }) target → Steps p.tables e below (T.setTop g) target := by
  subst hnc hns
  obtain ⟨cq, q1, q2⟩ := E.cell
  obtain ⟨v, _, ⟨T', L', k', n'⟩, -, X', ⟨L, hQ, h1, h2, h3⟩, st⟩ := X.privateBack hx hown (mvT hZ w1) (mvT hZ w2) (mvT hZ wsel) (Cond.privateMethod_at (mvP hZ wp (args := #[]))) (mvT hZ w4) hy (backOf (W := W) hM hZ w4 w3 hf hl) hg hsize (Steps.refl _) (a := a) (by rw [eT]; exact q1) q2 (argsL := argsL) (rest := rest) hlen hstack hW hdg (fun _ _ => ⟨has, eT, hc, hs⟩)
  dsimp only [Pt.U, Pt.locs, Pt.cells, Pt.slots] at X' hQ h1 h2 h3 st
  subst h1 h2 h3
  exact ⟨v, T', L, X', hQ, fun _ k => st.trans k⟩
theorem own_callF {xi y : MethodName} {bytes : ByteArray} {maxL : Nat} {ret : Option FieldType} {rm : Room} {as' : Array Value} {own C : String} {index count : Nat} (X : Stand p l e R s m args below meth c T locs cells slots) (hx : p.tables.exec = Jvm.exec) (hZ : Z.Warmed39 s.vm) (hown : s.vm.findClass own = some m.cls)
    (w1 : (Jvm.Cond.methodLink own index xi).before a0 Z = true) (wd : (Jvm.Cond.declares xi).before a0 Z = true) (wfa : (Jvm.Cond.interfaceMethod xi.cls xi.cls xi.name xi.desc).before a0 Z = true) (wsel : (Jvm.Cond.selects C xi y).before a0 Z = true) (w2 : (Jvm.Cond.instanceMethod y).before a0 Z = true) (wp : (Jvm.Cond.publicMethod y).before a0 Z = true) (wu : (Jvm.Cond.unhidden C xi.name xi.desc).before a0 Z = true) (wk : (Jvm.Cond.castable C xi.cls).before a0 Z = true) (w3 : (Jvm.Cond.initialized y.cls).before a0 Z = true) (w4 : (Jvm.Cond.code y bytes maxL ret).before a0 Z = true) (hfk : ((Jvm.Cond.interfaceMethod xi.cls xi.cls xi.name xi.desc).onTables && (Jvm.Cond.interfaceMethod xi.cls xi.cls xi.name xi.desc).keepsFace) = true) (hM : own_Met l Z h y bytes maxL ret rm as' Q) (W : Nat) (nc ns : Nat) 
    (hc : cells + nc ≤ R.cells) (hs : slots + ns ≤ R.slots) (eT : T.heap = h) {a : Addr} (E : Exa Z h a C) {g : JFrame} (hg : g.method = m) (hsize : g.locals.size = c.maxLocals)
    (argsL rest : List Value) (hlen : ∀ sig, parseMethodDescriptor xi.desc = some sig → argsL.length = sig.parameters.length) (hstack : g.stack = argsL.reverse ++ .ref a :: rest) (has : (Value.ref a :: argsL).toArray = as') (hdg : decode c.code g.pc = .ok (.invokeinterface index count, 5))
    (hy : xi.cls ≠ "java/lang/invoke/MethodHandle" ∧ xi.cls ≠ "java/lang/invoke/VarHandle" := by decide) (hf : rm.frames + 1 ≤ R.frames := by decide) (hl : W + (maxL + 11) + rm.locals ≤ R.locals := by decide) (hW : 2 * g.monitorRoom + (rest.map fun v => v.category).sum ≤ W := by exact Nat.le_of_eq rfl) (hnc : rm.cells = nc := by rfl) (hns : rm.slots = ns := by rfl) :
    ∃ v T' L, Stand p l e R s m args below meth c T' (locs ++ L) (cells + nc) (slots + ns) ∧ Q v T'.heap L ∧ ∀ target, Steps p.tables e below (T'.setTop { g with pc := g.pc + 5, stack := v.toList ++ rest }) target → Steps p.tables e below (T.setTop g) target := by
  subst hnc hns
  obtain ⟨cq, kq, qa, qb, qc⟩ := isOf hZ eT E
  obtain ⟨v, _, ⟨T', L', k', n'⟩, -, X', ⟨L, hQ, h1, h2, h3⟩, st⟩ := X.interfaceBack hx hown (mvT hZ w1) (mvT hZ wd) (mvT hZ wfa hfk) (mvT hZ wsel) (mvT hZ w2) (mvT hZ wp) (mvT hZ wu) (mvT hZ wk) hy (backOf (W := W) hM hZ w4 w3 hf hl) qa qb qc hg hsize (Steps.refl _) (argsL := argsL) (rest := rest) hlen hstack hW hdg (fun _ _ => ⟨has, eT, hc, hs⟩)
  dsimp only [Pt.U, Pt.locs, Pt.cells, Pt.slots] at X' hQ h1 h2 h3 st
  subst h1 h2 h3
  exact ⟨v, T', L, X', hQ, fun _ k => st.trans k⟩
theorem own_callU {y z : MethodName} {bytes : ByteArray} {maxL : Nat} {ret : Option FieldType} {rm : Room} {as' : Array Value} {own owner C : String} {index : Nat} (X : Stand p l e R s m args below meth c T locs cells slots) (hx : p.tables.exec = Jvm.exec) (hZ : Z.Warmed39 s.vm) (hown : s.vm.findClass own = some m.cls)
    (w1 : (Jvm.Cond.methodLink own index y).before a0 Z = true) (wsm : (Jvm.Cond.sameMethod y.cls owner y.name y.desc).before a0 Z = true) (wd : (Jvm.Cond.declares ⟨owner, y.name, y.desc⟩).before a0 Z = true) (wsel : (Jvm.Cond.selects C y z).before a0 Z = true) (w2 : (Jvm.Cond.instanceMethod z).before a0 Z = true) (w3 : (Jvm.Cond.initialized z.cls).before a0 Z = true) (w4 : (Jvm.Cond.code z bytes maxL ret).before a0 Z = true) (hM : own_Met l Z h z bytes maxL ret rm as' Q) (W : Nat) (nc ns : Nat) 
    (hc : cells + nc ≤ R.cells) (hs : slots + ns ≤ R.slots) (eT : T.heap = h) {a : Addr} (E : Exa Z h a C) {g : JFrame} (hg : g.method = m) (hsize : g.locals.size = c.maxLocals)
    (argsL rest : List Value) (hlen : ∀ sig, parseMethodDescriptor y.desc = some sig → argsL.length = sig.parameters.length) (hstack : g.stack = argsL.reverse ++ .ref a :: rest) (has : (Value.ref a :: argsL).toArray = as') (hdg : decode c.code g.pc = .ok (.invokevirtual index, 3))
    (howner : owner ≠ "java/lang/invoke/MethodHandle" ∧ owner ≠ "java/lang/invoke/VarHandle" := by decide) (hf : rm.frames + 1 ≤ R.frames := by decide) (hl : W + (maxL + 11) + rm.locals ≤ R.locals := by decide) (hW : 2 * g.monitorRoom + (rest.map fun v => v.category).sum ≤ W := by exact Nat.le_of_eq rfl) (hnc : rm.cells = nc := by rfl) (hns : rm.slots = ns := by rfl) :
    ∃ v T' L, Stand p l e R s m args below meth c T' (locs ++ L) (cells + nc) (slots + ns) ∧ Q v T'.heap L ∧ ∀ target, Steps p.tables e below (T'.setTop { g with pc := g.pc + 3, stack := v.toList ++ rest }) target → Steps p.tables e below (T.setTop g) target := by
  subst hnc hns
  obtain ⟨cq, kq, qa, qb, qc⟩ := isOf hZ eT E
  obtain ⟨v, _, ⟨T', L', k', n'⟩, -, X', ⟨L, hQ, h1, h2, h3⟩, st⟩ := X.virtualBackUp hx hown (mvT hZ w1) (mvT hZ wsm) (mvT hZ wd) howner (mvT hZ wsel) (mvT hZ w2) (backOf (W := W) hM hZ w4 w3 hf hl) qa qc hg hsize (Steps.refl _) (argsL := argsL) (rest := rest) hlen hstack hW hdg (fun _ _ => ⟨has, eT, hc, hs⟩)
  dsimp only [Pt.U, Pt.locs, Pt.cells, Pt.slots] at X' hQ h1 h2 h3 st
  subst h1 h2 h3
  exact ⟨v, T', L, X', hQ, fun _ k => st.trans k⟩
/-- the start's heap stands in h unchanged -/
theorem own_oldExt {h' : Heap} (O : Ext Z.heap h) (E : Ext h h') : Ext Z.heap h' := ⟨Nat.le_trans O.1 E.1, fun x c q => E.2 x c (O.2 x c q)⟩
theorem own_oldKeep {h' : Heap} {ws : List Addr} (O : Ext Z.heap h) (K : Keep h h' ws) (q : ∀ x ∈ ws, Z.heap.size ≤ x) : Ext Z.heap h' :=
  ⟨Nat.le_trans O.1 K.1, fun x c r => K.2.1 x c (O.2 x c r) fun z => absurd (Array.getElem?_eq_some_iff.mp r).1 (Nat.not_lt.mpr (q x z))⟩
theorem own_oldWr {h' : Heap} {a : Addr} {sl : Nat} {v : Value} (O : Ext Z.heap h) (W : Wr h h' a sl v) (q : Z.heap.size ≤ a) : Ext Z.heap h' := own_oldKeep O (Keep.of_wr W) (allS q all0)
theorem own_keepTrans {h0 h' : Heap} {ws : List Addr} (K : Keep h0 h ws) (K' : Keep h h' []) : Keep h0 h' ws := K.trans K' fun x q => nomatch q
theorem own_insKeep {h' : Heap} {ws : List Addr} {a : Addr} {C : String} {b : Bool} (F : Ins Z h a C b) (K : Keep h h' ws) : Ins Z h' a C b := by
  obtain ⟨cell, cT, h1, h2, h3⟩ := F
  obtain ⟨c', q1, q2, q3, -⟩ := K.2.2 a cell h1
  exact ⟨c', cT, q1, h2, by rw [q2, q3]; exact h3⟩
theorem own_cat1 {v : Value} (r : v.isRef = true) : v.category = 1 := by cases v <;> simp [Value.isRef, Value.category] at r ⊢
theorem own_fitsRef {v : Value} (t : FieldType) (r : v.isRef = true) (ht : t.isReference = true) : fits t v = true := by
  cases t <;> first | (cases ht; done) | (rcases ref_cases r with rfl | ⟨_, rfl⟩ <;> rfl)
theorem own_narRef {v : Value} (t : FieldType) (r : v.isRef = true) (ht : t.isReference = true) : narrow t v = v := by
  cases t <;> first | (cases ht; done) | (rcases ref_cases r with rfl | ⟨_, rfl⟩ <;> rfl)
theorem own_keepSub {h0 : Heap} {ws ws' : List Addr} (K : Keep h0 h ws) (q : ∀ x ∈ ws, x ∈ ws') : Keep h0 h ws' := ⟨K.1, fun x c r z => K.2.1 x c r fun u => z (q x u), K.2.2⟩
theorem own_neTy {a b : Addr} {k k' : ClassId} {ty ty' : FieldType} {z z' : Int32} {vs vs' : List Value} {d d' : Value} (F : Arv Z h a k ty z vs d) (G : Arv Z h b k' ty' z' vs' d') (hn : ty ≠ ty') : a ≠ b := by
  rintro rfl
  obtain ⟨c, A, -⟩ := F
  obtain ⟨c', A', -⟩ := G
  cases A.1.symm.trans A'.1
  obtain ⟨-, k1, q1, cm1, r1⟩ := A.2.1
  obtain ⟨-, k2, q2, cm2, r2⟩ := A'.2.1
  cases q1.symm.trans q2
  rw [r1] at r2
  cases r2
  exact hn rfl
theorem own_catR (a : Addr) : (Value.ref a).category = 1 := rfl
theorem own_catN : Value.null.category = 1 := rfl
theorem own_catI (a : Int32) : (Value.int a).category = 1 := rfl
theorem own_catJ (a : Int64) : (Value.long a).category = 2 := rfl
end OwnKit
theorem own_fd0 : parseFieldDescriptor "I" = some .int := by decide +kernel
theorem own_fd1 : parseFieldDescriptor "[Ljava/lang/Object;" = some (.array (.object "java/lang/Object")) := by decide +kernel
theorem own_fd2 : parseFieldDescriptor "[Lcom/example/nudo/nudo/CellLink;" = some (.array (.object "com/example/nudo/nudo/CellLink")) := by decide +kernel
theorem own_fd3 : parseFieldDescriptor "Lcom/example/nudo/nudo/VehicleClass;" = some (.object "com/example/nudo/nudo/VehicleClass") := by decide +kernel
theorem own_fd4 : parseFieldDescriptor "[I" = some (.array .int) := by decide +kernel
theorem own_fd5 : parseFieldDescriptor "Ljava/util/ArrayList;" = some (.object "java/util/ArrayList") := by decide +kernel
theorem own_fd6 : parseFieldDescriptor "[[I" = some (.array (.array .int)) := by decide +kernel
theorem ow0 {Z : State} {a0 : Array Value} (hw : ∀ d ∈ tables_1, d.before a0 Z = true) : (Jvm.Cond.constant "com/example/nudo/nudo/LoadingResultVehiclesExitedPinLaw" (18 : Nat) (2147483647 : Int32)).before a0 Z = true := hw _ (List.mem_of_getElem? (i := 0) rfl)
theorem ow1 {Z : State} {a0 : Array Value} (hw : ∀ d ∈ tables_1, d.before a0 Z = true) : (Jvm.Cond.classLink "com/example/nudo/nudo/LoadingResultVehiclesExitedPinLaw" (19 : Nat) "java/util/ArrayList").before a0 Z = true := hw _ (List.mem_of_getElem? (i := 1) rfl)
theorem ow2 {Z : State} {a0 : Array Value} (hw : ∀ d ∈ tables_1, d.before a0 Z = true) : (Jvm.Cond.instantiable "java/util/ArrayList" (3 : Nat)).before a0 Z = true := hw _ (List.mem_of_getElem? (i := 2) rfl)
theorem ow3 {Z : State} {a0 : Array Value} (hw : ∀ d ∈ tables_1, d.before a0 Z = true) : (Jvm.Cond.initialized "java/util/ArrayList").before a0 Z = true := hw _ (List.mem_of_getElem? (i := 3) rfl)
theorem ow4 {Z : State} {a0 : Array Value} (hw : ∀ d ∈ tables_1, d.before a0 Z = true) : (Jvm.Cond.methodLink "com/example/nudo/nudo/LoadingResultVehiclesExitedPinLaw" (21 : Nat) ({ cls := "java/util/ArrayList", name := "<init>", desc := "()V" } : Jvm.MethodName)).before a0 Z = true := hw _ (List.mem_of_getElem? (i := 4) rfl)
theorem ow5 {Z : State} {a0 : Array Value} (hw : ∀ d ∈ tables_1, d.before a0 Z = true) : (Jvm.Cond.instanceMethod ({ cls := "java/util/ArrayList", name := "<init>", desc := "()V" } : Jvm.MethodName)).before a0 Z = true := hw _ (List.mem_of_getElem? (i := 5) rfl)
theorem ow6 {Z : State} {a0 : Array Value} (hw : ∀ d ∈ tables_1, d.before a0 Z = true) : (Jvm.Cond.code ({ cls := "java/util/ArrayList", name := "<init>", desc := "()V" } : Jvm.MethodName) jdk_38_method_2_code (1 : Nat) (Option.none : Option Jvm.ClassFile.FieldType)).before a0 Z = true := hw _ (List.mem_of_getElem? (i := 6) rfl)
theorem ow7 {Z : State} {a0 : Array Value} (hw : ∀ d ∈ tables_1, d.before a0 Z = true) : (Jvm.Cond.methodLink "java/util/ArrayList" (1 : Nat) ({ cls := "java/util/AbstractList", name := "<init>", desc := "()V" } : Jvm.MethodName)).before a0 Z = true := hw _ (List.mem_of_getElem? (i := 7) rfl)
theorem ow8 {Z : State} {a0 : Array Value} (hw : ∀ d ∈ tables_1, d.before a0 Z = true) : (Jvm.Cond.instanceMethod ({ cls := "java/util/AbstractList", name := "<init>", desc := "()V" } : Jvm.MethodName)).before a0 Z = true := hw _ (List.mem_of_getElem? (i := 8) rfl)
theorem ow11 {Z : State} {a0 : Array Value} (hw : ∀ d ∈ tables_1, d.before a0 Z = true) : (Jvm.Cond.initialized "java/util/AbstractList").before a0 Z = true := hw _ (List.mem_of_getElem? (i := 11) rfl)
theorem ow12 {Z : State} {a0 : Array Value} (hw : ∀ d ∈ tables_1, d.before a0 Z = true) : (Jvm.Cond.code ({ cls := "java/util/AbstractList", name := "<init>", desc := "()V" } : Jvm.MethodName) jdk_39_method_1_code (1 : Nat) (Option.none : Option Jvm.ClassFile.FieldType)).before a0 Z = true := hw _ (List.mem_of_getElem? (i := 12) rfl)
theorem ow13 {Z : State} {a0 : Array Value} (hw : ∀ d ∈ tables_1, d.before a0 Z = true) : (Jvm.Cond.methodLink "java/util/AbstractList" (1 : Nat) ({ cls := "java/util/AbstractCollection", name := "<init>", desc := "()V" } : Jvm.MethodName)).before a0 Z = true := hw _ (List.mem_of_getElem? (i := 13) rfl)
theorem ow14 {Z : State} {a0 : Array Value} (hw : ∀ d ∈ tables_1, d.before a0 Z = true) : (Jvm.Cond.instanceMethod ({ cls := "java/util/AbstractCollection", name := "<init>", desc := "()V" } : Jvm.MethodName)).before a0 Z = true := hw _ (List.mem_of_getElem? (i := 14) rfl)
theorem ow17 {Z : State} {a0 : Array Value} (hw : ∀ d ∈ tables_1, d.before a0 Z = true) : (Jvm.Cond.initialized "java/util/AbstractCollection").before a0 Z = true := hw _ (List.mem_of_getElem? (i := 17) rfl)
theorem ow18 {Z : State} {a0 : Array Value} (hw : ∀ d ∈ tables_1, d.before a0 Z = true) : (Jvm.Cond.code ({ cls := "java/util/AbstractCollection", name := "<init>", desc := "()V" } : Jvm.MethodName) jdk_22_method_1_code (1 : Nat) (Option.none : Option Jvm.ClassFile.FieldType)).before a0 Z = true := hw _ (List.mem_of_getElem? (i := 18) rfl)
theorem ow19 {Z : State} {a0 : Array Value} (hw : ∀ d ∈ tables_1, d.before a0 Z = true) : (Jvm.Cond.methodLink "java/util/AbstractCollection" (1 : Nat) ({ cls := "java/lang/Object", name := "<init>", desc := "()V" } : Jvm.MethodName)).before a0 Z = true := hw _ (List.mem_of_getElem? (i := 19) rfl)
theorem ow20 {Z : State} {a0 : Array Value} (hw : ∀ d ∈ tables_1, d.before a0 Z = true) : (Jvm.Cond.instanceMethod ({ cls := "java/lang/Object", name := "<init>", desc := "()V" } : Jvm.MethodName)).before a0 Z = true := hw _ (List.mem_of_getElem? (i := 20) rfl)
theorem ow21 {Z : State} {a0 : Array Value} (hw : ∀ d ∈ tables_1, d.before a0 Z = true) : (Jvm.Cond.code ({ cls := "java/lang/Object", name := "<init>", desc := "()V" } : Jvm.MethodName) object_method_1_code (1 : Nat) (Option.none : Option Jvm.ClassFile.FieldType)).before a0 Z = true := hw _ (List.mem_of_getElem? (i := 21) rfl)
theorem ow22 {Z : State} {a0 : Array Value} (hw : ∀ d ∈ tables_1, d.before a0 Z = true) : (Jvm.Cond.fieldLink "java/util/AbstractList" (7 : Nat) "java/util/AbstractList" "modCount" "I").before a0 Z = true := hw _ (List.mem_of_getElem? (i := 22) rfl)
theorem ow23 {Z : State} {a0 : Array Value} (hw : ∀ d ∈ tables_1, d.before a0 Z = true) : (Jvm.Cond.lays "java/util/ArrayList" "java/util/AbstractList" "modCount" "I").before a0 Z = true := hw _ (List.mem_of_getElem? (i := 23) rfl)
theorem ow24 {Z : State} {a0 : Array Value} (hw : ∀ d ∈ tables_1, d.before a0 Z = true) : (Jvm.Cond.fieldLink "java/util/ArrayList" (39 : Nat) "java/util/ArrayList" "DEFAULTCAPACITY_EMPTY_ELEMENTDATA" "[Ljava/lang/Object;").before a0 Z = true := hw _ (List.mem_of_getElem? (i := 24) rfl)
theorem ow25 {Z : State} {a0 : Array Value} (hw : ∀ d ∈ tables_1, d.before a0 Z = true) : (Jvm.Cond.fieldLink "java/util/ArrayList" (9 : Nat) "java/util/ArrayList" "elementData" "[Ljava/lang/Object;").before a0 Z = true := hw _ (List.mem_of_getElem? (i := 25) rfl)
theorem ow26 {Z : State} {a0 : Array Value} (hw : ∀ d ∈ tables_1, d.before a0 Z = true) : (Jvm.Cond.lays "java/util/ArrayList" "java/util/ArrayList" "elementData" "[Ljava/lang/Object;").before a0 Z = true := hw _ (List.mem_of_getElem? (i := 26) rfl)
theorem ow27 {Z : State} {a0 : Array Value} (hw : ∀ d ∈ tables_1, d.before a0 Z = true) : (Jvm.Cond.classLink "com/example/nudo/nudo/LoadingResultVehiclesExitedPinLaw" (36 : Nat) "com/example/nudo/nudo/LoadingResult").before a0 Z = true := hw _ (List.mem_of_getElem? (i := 27) rfl)
theorem ow28 {Z : State} {a0 : Array Value} (hw : ∀ d ∈ tables_1, d.before a0 Z = true) : (Jvm.Cond.instantiable "com/example/nudo/nudo/LoadingResult" (8 : Nat)).before a0 Z = true := hw _ (List.mem_of_getElem? (i := 28) rfl)
theorem ow29 {Z : State} {a0 : Array Value} (hw : ∀ d ∈ tables_1, d.before a0 Z = true) : (Jvm.Cond.initialized "com/example/nudo/nudo/LoadingResult").before a0 Z = true := hw _ (List.mem_of_getElem? (i := 29) rfl)
theorem ow30 {Z : State} {a0 : Array Value} (hw : ∀ d ∈ tables_1, d.before a0 Z = true) : (Jvm.Cond.methodLink "com/example/nudo/nudo/LoadingResultVehiclesExitedPinLaw" (38 : Nat) ({ cls := "com/example/nudo/nudo/LoadingResult", name := "<init>", desc := "(ILjava/util/List;III)V" } : Jvm.MethodName)).before a0 Z = true := hw _ (List.mem_of_getElem? (i := 30) rfl)
theorem ow31 {Z : State} {a0 : Array Value} (hw : ∀ d ∈ tables_1, d.before a0 Z = true) : (Jvm.Cond.instanceMethod ({ cls := "com/example/nudo/nudo/LoadingResult", name := "<init>", desc := "(ILjava/util/List;III)V" } : Jvm.MethodName)).before a0 Z = true := hw _ (List.mem_of_getElem? (i := 31) rfl)
theorem ow32 {Z : State} {a0 : Array Value} (hw : ∀ d ∈ tables_1, d.before a0 Z = true) : (Jvm.Cond.code ({ cls := "com/example/nudo/nudo/LoadingResult", name := "<init>", desc := "(ILjava/util/List;III)V" } : Jvm.MethodName) prog_30_method_1_code (10 : Nat) (Option.none : Option Jvm.ClassFile.FieldType)).before a0 Z = true := hw _ (List.mem_of_getElem? (i := 32) rfl)
theorem ow33 {Z : State} {a0 : Array Value} (hw : ∀ d ∈ tables_1, d.before a0 Z = true) : (Jvm.Cond.methodLink "com/example/nudo/nudo/LoadingResult" (1 : Nat) ({ cls := "java/lang/Object", name := "<init>", desc := "()V" } : Jvm.MethodName)).before a0 Z = true := hw _ (List.mem_of_getElem? (i := 33) rfl)
theorem ow34 {Z : State} {a0 : Array Value} (hw : ∀ d ∈ tables_1, d.before a0 Z = true) : (Jvm.Cond.fieldLink "com/example/nudo/nudo/LoadingResult" (7 : Nat) "com/example/nudo/nudo/LoadingResult" "timeStep" "I").before a0 Z = true := hw _ (List.mem_of_getElem? (i := 34) rfl)
theorem ow35 {Z : State} {a0 : Array Value} (hw : ∀ d ∈ tables_1, d.before a0 Z = true) : (Jvm.Cond.laysFinal "com/example/nudo/nudo/LoadingResult" "com/example/nudo/nudo/LoadingResult" "timeStep" "I").before a0 Z = true := hw _ (List.mem_of_getElem? (i := 35) rfl)
theorem ow36 {Z : State} {a0 : Array Value} (hw : ∀ d ∈ tables_1, d.before a0 Z = true) : (Jvm.Cond.methodLink "com/example/nudo/nudo/LoadingResult" (13 : Nat) ({ cls := "java/util/List", name := "size", desc := "()I" } : Jvm.MethodName)).before a0 Z = true := hw _ (List.mem_of_getElem? (i := 36) rfl)
theorem ow37 {Z : State} {a0 : Array Value} (hw : ∀ d ∈ tables_1, d.before a0 Z = true) : (Jvm.Cond.declares ({ cls := "java/util/List", name := "size", desc := "()I" } : Jvm.MethodName)).before a0 Z = true := hw _ (List.mem_of_getElem? (i := 37) rfl)
theorem ow38 {Z : State} {a0 : Array Value} (hw : ∀ d ∈ tables_1, d.before a0 Z = true) : (Jvm.Cond.interfaceMethod "java/util/List" "java/util/List" "size" "()I").before a0 Z = true := hw _ (List.mem_of_getElem? (i := 38) rfl)
theorem ow39 {Z : State} {a0 : Array Value} (hw : ∀ d ∈ tables_1, d.before a0 Z = true) : (Jvm.Cond.selects "java/util/ArrayList" ({ cls := "java/util/List", name := "size", desc := "()I" } : Jvm.MethodName) ({ cls := "java/util/ArrayList", name := "size", desc := "()I" } : Jvm.MethodName)).before a0 Z = true := hw _ (List.mem_of_getElem? (i := 39) rfl)
theorem ow40 {Z : State} {a0 : Array Value} (hw : ∀ d ∈ tables_1, d.before a0 Z = true) : (Jvm.Cond.instanceMethod ({ cls := "java/util/ArrayList", name := "size", desc := "()I" } : Jvm.MethodName)).before a0 Z = true := hw _ (List.mem_of_getElem? (i := 40) rfl)
theorem ow41 {Z : State} {a0 : Array Value} (hw : ∀ d ∈ tables_1, d.before a0 Z = true) : (Jvm.Cond.publicMethod ({ cls := "java/util/ArrayList", name := "size", desc := "()I" } : Jvm.MethodName)).before a0 Z = true := hw _ (List.mem_of_getElem? (i := 41) rfl)
theorem ow42 {Z : State} {a0 : Array Value} (hw : ∀ d ∈ tables_1, d.before a0 Z = true) : (Jvm.Cond.unhidden "java/util/ArrayList" "size" "()I").before a0 Z = true := hw _ (List.mem_of_getElem? (i := 42) rfl)
theorem ow43 {Z : State} {a0 : Array Value} (hw : ∀ d ∈ tables_1, d.before a0 Z = true) : (Jvm.Cond.castable "java/util/ArrayList" "java/util/List").before a0 Z = true := hw _ (List.mem_of_getElem? (i := 43) rfl)
theorem ow44 {Z : State} {a0 : Array Value} (hw : ∀ d ∈ tables_1, d.before a0 Z = true) : (Jvm.Cond.code ({ cls := "java/util/ArrayList", name := "size", desc := "()I" } : Jvm.MethodName) jdk_38_method_8_code (1 : Nat) (Option.some Jvm.ClassFile.FieldType.int)).before a0 Z = true := hw _ (List.mem_of_getElem? (i := 44) rfl)
theorem ow45 {Z : State} {a0 : Array Value} (hw : ∀ d ∈ tables_1, d.before a0 Z = true) : (Jvm.Cond.fieldLink "java/util/ArrayList" (48 : Nat) "java/util/ArrayList" "size" "I").before a0 Z = true := hw _ (List.mem_of_getElem? (i := 45) rfl)
theorem ow46 {Z : State} {a0 : Array Value} (hw : ∀ d ∈ tables_1, d.before a0 Z = true) : (Jvm.Cond.lays "java/util/ArrayList" "java/util/ArrayList" "size" "I").before a0 Z = true := hw _ (List.mem_of_getElem? (i := 46) rfl)
theorem ow47 {Z : State} {a0 : Array Value} (hw : ∀ d ∈ tables_1, d.before a0 Z = true) : (Jvm.Cond.arrayClass Jvm.ClassFile.FieldType.int).before a0 Z = true := hw _ (List.mem_of_getElem? (i := 47) rfl)
theorem ow48 {Z : State} {a0 : Array Value} (hw : ∀ d ∈ tables_1, d.before a0 Z = true) : (Jvm.Cond.fieldLink "com/example/nudo/nudo/LoadingResult" (19 : Nat) "com/example/nudo/nudo/LoadingResult" "departureSteps" "[I").before a0 Z = true := hw _ (List.mem_of_getElem? (i := 48) rfl)
theorem ow49 {Z : State} {a0 : Array Value} (hw : ∀ d ∈ tables_1, d.before a0 Z = true) : (Jvm.Cond.laysFinal "com/example/nudo/nudo/LoadingResult" "com/example/nudo/nudo/LoadingResult" "departureSteps" "[I").before a0 Z = true := hw _ (List.mem_of_getElem? (i := 49) rfl)
theorem ow50 {Z : State} {a0 : Array Value} (hw : ∀ d ∈ tables_1, d.before a0 Z = true) : (Jvm.Cond.fieldLink "com/example/nudo/nudo/LoadingResult" (23 : Nat) "com/example/nudo/nudo/LoadingResult" "exitSteps" "[I").before a0 Z = true := hw _ (List.mem_of_getElem? (i := 50) rfl)
theorem ow51 {Z : State} {a0 : Array Value} (hw : ∀ d ∈ tables_1, d.before a0 Z = true) : (Jvm.Cond.laysFinal "com/example/nudo/nudo/LoadingResult" "com/example/nudo/nudo/LoadingResult" "exitSteps" "[I").before a0 Z = true := hw _ (List.mem_of_getElem? (i := 51) rfl)
theorem ow52 {Z : State} {a0 : Array Value} (hw : ∀ d ∈ tables_1, d.before a0 Z = true) : (Jvm.Cond.fieldLink "com/example/nudo/nudo/LoadingResult" (26 : Nat) "com/example/nudo/nudo/LoadingResult" "freeFlowSteps" "[I").before a0 Z = true := hw _ (List.mem_of_getElem? (i := 52) rfl)
theorem ow53 {Z : State} {a0 : Array Value} (hw : ∀ d ∈ tables_1, d.before a0 Z = true) : (Jvm.Cond.laysFinal "com/example/nudo/nudo/LoadingResult" "com/example/nudo/nudo/LoadingResult" "freeFlowSteps" "[I").before a0 Z = true := hw _ (List.mem_of_getElem? (i := 53) rfl)
theorem ow54 {Z : State} {a0 : Array Value} (hw : ∀ d ∈ tables_1, d.before a0 Z = true) : (Jvm.Cond.classLink "com/example/nudo/nudo/LoadingResult" (29 : Nat) "[I").before a0 Z = true := hw _ (List.mem_of_getElem? (i := 54) rfl)
theorem ow55 {Z : State} {a0 : Array Value} (hw : ∀ d ∈ tables_1, d.before a0 Z = true) : (Jvm.Cond.arrayOver (Jvm.ClassFile.FieldType.array Jvm.ClassFile.FieldType.int)).before a0 Z = true := hw _ (List.mem_of_getElem? (i := 55) rfl)
theorem ow56 {Z : State} {a0 : Array Value} (hw : ∀ d ∈ tables_1, d.before a0 Z = true) : (Jvm.Cond.fieldLink "com/example/nudo/nudo/LoadingResult" (30 : Nat) "com/example/nudo/nudo/LoadingResult" "linkEntrySteps" "[[I").before a0 Z = true := hw _ (List.mem_of_getElem? (i := 56) rfl)
theorem ow57 {Z : State} {a0 : Array Value} (hw : ∀ d ∈ tables_1, d.before a0 Z = true) : (Jvm.Cond.laysFinal "com/example/nudo/nudo/LoadingResult" "com/example/nudo/nudo/LoadingResult" "linkEntrySteps" "[[I").before a0 Z = true := hw _ (List.mem_of_getElem? (i := 57) rfl)
theorem ow58 {Z : State} {a0 : Array Value} (hw : ∀ d ∈ tables_1, d.before a0 Z = true) : (Jvm.Cond.methodLink "com/example/nudo/nudo/LoadingResult" (34 : Nat) ({ cls := "java/util/List", name := "iterator", desc := "()Ljava/util/Iterator;" } : Jvm.MethodName)).before a0 Z = true := hw _ (List.mem_of_getElem? (i := 58) rfl)
theorem ow59 {Z : State} {a0 : Array Value} (hw : ∀ d ∈ tables_1, d.before a0 Z = true) : (Jvm.Cond.declares ({ cls := "java/util/List", name := "iterator", desc := "()Ljava/util/Iterator;" } : Jvm.MethodName)).before a0 Z = true := hw _ (List.mem_of_getElem? (i := 59) rfl)
theorem ow60 {Z : State} {a0 : Array Value} (hw : ∀ d ∈ tables_1, d.before a0 Z = true) : (Jvm.Cond.interfaceMethod "java/util/List" "java/util/List" "iterator" "()Ljava/util/Iterator;").before a0 Z = true := hw _ (List.mem_of_getElem? (i := 60) rfl)
theorem ow61 {Z : State} {a0 : Array Value} (hw : ∀ d ∈ tables_1, d.before a0 Z = true) : (Jvm.Cond.selects "java/util/ArrayList" ({ cls := "java/util/List", name := "iterator", desc := "()Ljava/util/Iterator;" } : Jvm.MethodName) ({ cls := "java/util/ArrayList", name := "iterator", desc := "()Ljava/util/Iterator;" } : Jvm.MethodName)).before a0 Z = true := hw _ (List.mem_of_getElem? (i := 61) rfl)
theorem ow62 {Z : State} {a0 : Array Value} (hw : ∀ d ∈ tables_1, d.before a0 Z = true) : (Jvm.Cond.instanceMethod ({ cls := "java/util/ArrayList", name := "iterator", desc := "()Ljava/util/Iterator;" } : Jvm.MethodName)).before a0 Z = true := hw _ (List.mem_of_getElem? (i := 62) rfl)
theorem ow63 {Z : State} {a0 : Array Value} (hw : ∀ d ∈ tables_1, d.before a0 Z = true) : (Jvm.Cond.publicMethod ({ cls := "java/util/ArrayList", name := "iterator", desc := "()Ljava/util/Iterator;" } : Jvm.MethodName)).before a0 Z = true := hw _ (List.mem_of_getElem? (i := 63) rfl)
theorem ow64 {Z : State} {a0 : Array Value} (hw : ∀ d ∈ tables_1, d.before a0 Z = true) : (Jvm.Cond.unhidden "java/util/ArrayList" "iterator" "()Ljava/util/Iterator;").before a0 Z = true := hw _ (List.mem_of_getElem? (i := 64) rfl)
theorem ow65 {Z : State} {a0 : Array Value} (hw : ∀ d ∈ tables_1, d.before a0 Z = true) : (Jvm.Cond.code ({ cls := "java/util/ArrayList", name := "iterator", desc := "()Ljava/util/Iterator;" } : Jvm.MethodName) jdk_38_method_55_code (1 : Nat) (Option.some (Jvm.ClassFile.FieldType.object "java/util/Iterator"))).before a0 Z = true := hw _ (List.mem_of_getElem? (i := 65) rfl)
theorem ow66 {Z : State} {a0 : Array Value} (hw : ∀ d ∈ tables_1, d.before a0 Z = true) : (Jvm.Cond.classLink "java/util/ArrayList" (267 : Nat) "java/util/ArrayList$Itr").before a0 Z = true := hw _ (List.mem_of_getElem? (i := 66) rfl)
theorem ow67 {Z : State} {a0 : Array Value} (hw : ∀ d ∈ tables_1, d.before a0 Z = true) : (Jvm.Cond.instantiable "java/util/ArrayList$Itr" (4 : Nat)).before a0 Z = true := hw _ (List.mem_of_getElem? (i := 67) rfl)
theorem ow68 {Z : State} {a0 : Array Value} (hw : ∀ d ∈ tables_1, d.before a0 Z = true) : (Jvm.Cond.initialized "java/util/ArrayList$Itr").before a0 Z = true := hw _ (List.mem_of_getElem? (i := 68) rfl)
theorem ow69 {Z : State} {a0 : Array Value} (hw : ∀ d ∈ tables_1, d.before a0 Z = true) : (Jvm.Cond.methodLink "java/util/ArrayList" (269 : Nat) ({ cls := "java/util/ArrayList$Itr", name := "<init>", desc := "(Ljava/util/ArrayList;)V" } : Jvm.MethodName)).before a0 Z = true := hw _ (List.mem_of_getElem? (i := 69) rfl)
theorem ow70 {Z : State} {a0 : Array Value} (hw : ∀ d ∈ tables_1, d.before a0 Z = true) : (Jvm.Cond.instanceMethod ({ cls := "java/util/ArrayList$Itr", name := "<init>", desc := "(Ljava/util/ArrayList;)V" } : Jvm.MethodName)).before a0 Z = true := hw _ (List.mem_of_getElem? (i := 70) rfl)
theorem ow72 {Z : State} {a0 : Array Value} (hw : ∀ d ∈ tables_1, d.before a0 Z = true) : (Jvm.Cond.code ({ cls := "java/util/ArrayList$Itr", name := "<init>", desc := "(Ljava/util/ArrayList;)V" } : Jvm.MethodName) jdk_49_method_1_code (2 : Nat) (Option.none : Option Jvm.ClassFile.FieldType)).before a0 Z = true := hw _ (List.mem_of_getElem? (i := 72) rfl)
theorem ow73 {Z : State} {a0 : Array Value} (hw : ∀ d ∈ tables_1, d.before a0 Z = true) : (Jvm.Cond.fieldLink "java/util/ArrayList$Itr" (1 : Nat) "java/util/ArrayList$Itr" "this$0" "Ljava/util/ArrayList;").before a0 Z = true := hw _ (List.mem_of_getElem? (i := 73) rfl)
theorem ow74 {Z : State} {a0 : Array Value} (hw : ∀ d ∈ tables_1, d.before a0 Z = true) : (Jvm.Cond.laysFinal "java/util/ArrayList$Itr" "java/util/ArrayList$Itr" "this$0" "Ljava/util/ArrayList;").before a0 Z = true := hw _ (List.mem_of_getElem? (i := 74) rfl)
theorem ow75 {Z : State} {a0 : Array Value} (hw : ∀ d ∈ tables_1, d.before a0 Z = true) : (Jvm.Cond.methodLink "java/util/ArrayList$Itr" (7 : Nat) ({ cls := "java/lang/Object", name := "<init>", desc := "()V" } : Jvm.MethodName)).before a0 Z = true := hw _ (List.mem_of_getElem? (i := 75) rfl)
theorem ow76 {Z : State} {a0 : Array Value} (hw : ∀ d ∈ tables_1, d.before a0 Z = true) : (Jvm.Cond.fieldLink "java/util/ArrayList$Itr" (13 : Nat) "java/util/ArrayList$Itr" "lastRet" "I").before a0 Z = true := hw _ (List.mem_of_getElem? (i := 76) rfl)
theorem ow77 {Z : State} {a0 : Array Value} (hw : ∀ d ∈ tables_1, d.before a0 Z = true) : (Jvm.Cond.lays "java/util/ArrayList$Itr" "java/util/ArrayList$Itr" "lastRet" "I").before a0 Z = true := hw _ (List.mem_of_getElem? (i := 77) rfl)
theorem ow78 {Z : State} {a0 : Array Value} (hw : ∀ d ∈ tables_1, d.before a0 Z = true) : (Jvm.Cond.fieldLink "java/util/ArrayList$Itr" (17 : Nat) "java/util/ArrayList" "modCount" "I").before a0 Z = true := hw _ (List.mem_of_getElem? (i := 78) rfl)
theorem ow79 {Z : State} {a0 : Array Value} (hw : ∀ d ∈ tables_1, d.before a0 Z = true) : (Jvm.Cond.sameField "java/util/ArrayList" "java/util/AbstractList" "modCount" "I").before a0 Z = true := hw _ (List.mem_of_getElem? (i := 79) rfl)
theorem ow80 {Z : State} {a0 : Array Value} (hw : ∀ d ∈ tables_1, d.before a0 Z = true) : (Jvm.Cond.fieldLink "java/util/ArrayList$Itr" (22 : Nat) "java/util/ArrayList$Itr" "expectedModCount" "I").before a0 Z = true := hw _ (List.mem_of_getElem? (i := 80) rfl)
theorem ow81 {Z : State} {a0 : Array Value} (hw : ∀ d ∈ tables_1, d.before a0 Z = true) : (Jvm.Cond.lays "java/util/ArrayList$Itr" "java/util/ArrayList$Itr" "expectedModCount" "I").before a0 Z = true := hw _ (List.mem_of_getElem? (i := 81) rfl)
theorem ow82 {Z : State} {a0 : Array Value} (hw : ∀ d ∈ tables_1, d.before a0 Z = true) : (Jvm.Cond.methodLink "com/example/nudo/nudo/LoadingResult" (38 : Nat) ({ cls := "java/util/Iterator", name := "hasNext", desc := "()Z" } : Jvm.MethodName)).before a0 Z = true := hw _ (List.mem_of_getElem? (i := 82) rfl)
theorem ow83 {Z : State} {a0 : Array Value} (hw : ∀ d ∈ tables_1, d.before a0 Z = true) : (Jvm.Cond.declares ({ cls := "java/util/Iterator", name := "hasNext", desc := "()Z" } : Jvm.MethodName)).before a0 Z = true := hw _ (List.mem_of_getElem? (i := 83) rfl)
theorem ow84 {Z : State} {a0 : Array Value} (hw : ∀ d ∈ tables_1, d.before a0 Z = true) : (Jvm.Cond.interfaceMethod "java/util/Iterator" "java/util/Iterator" "hasNext" "()Z").before a0 Z = true := hw _ (List.mem_of_getElem? (i := 84) rfl)
theorem ow85 {Z : State} {a0 : Array Value} (hw : ∀ d ∈ tables_1, d.before a0 Z = true) : (Jvm.Cond.selects "java/util/ArrayList$Itr" ({ cls := "java/util/Iterator", name := "hasNext", desc := "()Z" } : Jvm.MethodName) ({ cls := "java/util/ArrayList$Itr", name := "hasNext", desc := "()Z" } : Jvm.MethodName)).before a0 Z = true := hw _ (List.mem_of_getElem? (i := 85) rfl)
theorem ow86 {Z : State} {a0 : Array Value} (hw : ∀ d ∈ tables_1, d.before a0 Z = true) : (Jvm.Cond.instanceMethod ({ cls := "java/util/ArrayList$Itr", name := "hasNext", desc := "()Z" } : Jvm.MethodName)).before a0 Z = true := hw _ (List.mem_of_getElem? (i := 86) rfl)
theorem ow87 {Z : State} {a0 : Array Value} (hw : ∀ d ∈ tables_1, d.before a0 Z = true) : (Jvm.Cond.publicMethod ({ cls := "java/util/ArrayList$Itr", name := "hasNext", desc := "()Z" } : Jvm.MethodName)).before a0 Z = true := hw _ (List.mem_of_getElem? (i := 87) rfl)
theorem ow88 {Z : State} {a0 : Array Value} (hw : ∀ d ∈ tables_1, d.before a0 Z = true) : (Jvm.Cond.unhidden "java/util/ArrayList$Itr" "hasNext" "()Z").before a0 Z = true := hw _ (List.mem_of_getElem? (i := 88) rfl)
theorem ow89 {Z : State} {a0 : Array Value} (hw : ∀ d ∈ tables_1, d.before a0 Z = true) : (Jvm.Cond.castable "java/util/ArrayList$Itr" "java/util/Iterator").before a0 Z = true := hw _ (List.mem_of_getElem? (i := 89) rfl)
theorem ow90 {Z : State} {a0 : Array Value} (hw : ∀ d ∈ tables_1, d.before a0 Z = true) : (Jvm.Cond.code ({ cls := "java/util/ArrayList$Itr", name := "hasNext", desc := "()Z" } : Jvm.MethodName) jdk_49_method_2_code (1 : Nat) (Option.some Jvm.ClassFile.FieldType.boolean)).before a0 Z = true := hw _ (List.mem_of_getElem? (i := 90) rfl)
theorem ow91 {Z : State} {a0 : Array Value} (hw : ∀ d ∈ tables_1, d.before a0 Z = true) : (Jvm.Cond.fieldLink "java/util/ArrayList$Itr" (25 : Nat) "java/util/ArrayList$Itr" "cursor" "I").before a0 Z = true := hw _ (List.mem_of_getElem? (i := 91) rfl)
theorem ow92 {Z : State} {a0 : Array Value} (hw : ∀ d ∈ tables_1, d.before a0 Z = true) : (Jvm.Cond.lays "java/util/ArrayList$Itr" "java/util/ArrayList$Itr" "cursor" "I").before a0 Z = true := hw _ (List.mem_of_getElem? (i := 92) rfl)
theorem ow93 {Z : State} {a0 : Array Value} (hw : ∀ d ∈ tables_1, d.before a0 Z = true) : (Jvm.Cond.fieldLinkNest "java/util/ArrayList$Itr" (28 : Nat) "java/util/ArrayList" "size" "I" "java/util/ArrayList").before a0 Z = true := hw _ (List.mem_of_getElem? (i := 93) rfl)
theorem ow94 {Z : State} {a0 : Array Value} (hw : ∀ d ∈ tables_1, d.before a0 Z = true) : (Jvm.Cond.fieldLink "com/example/nudo/nudo/LoadingResult" (69 : Nat) "com/example/nudo/nudo/LoadingResult" "endStep" "I").before a0 Z = true := hw _ (List.mem_of_getElem? (i := 94) rfl)
theorem ow95 {Z : State} {a0 : Array Value} (hw : ∀ d ∈ tables_1, d.before a0 Z = true) : (Jvm.Cond.laysFinal "com/example/nudo/nudo/LoadingResult" "com/example/nudo/nudo/LoadingResult" "endStep" "I").before a0 Z = true := hw _ (List.mem_of_getElem? (i := 95) rfl)
theorem ow96 {Z : State} {a0 : Array Value} (hw : ∀ d ∈ tables_1, d.before a0 Z = true) : (Jvm.Cond.fieldLink "com/example/nudo/nudo/LoadingResult" (72 : Nat) "com/example/nudo/nudo/LoadingResult" "vehiclesWaiting" "I").before a0 Z = true := hw _ (List.mem_of_getElem? (i := 96) rfl)
theorem ow97 {Z : State} {a0 : Array Value} (hw : ∀ d ∈ tables_1, d.before a0 Z = true) : (Jvm.Cond.laysFinal "com/example/nudo/nudo/LoadingResult" "com/example/nudo/nudo/LoadingResult" "vehiclesWaiting" "I").before a0 Z = true := hw _ (List.mem_of_getElem? (i := 97) rfl)
theorem ow98 {Z : State} {a0 : Array Value} (hw : ∀ d ∈ tables_1, d.before a0 Z = true) : (Jvm.Cond.fieldLink "com/example/nudo/nudo/LoadingResult" (75 : Nat) "com/example/nudo/nudo/LoadingResult" "vehiclesInNetwork" "I").before a0 Z = true := hw _ (List.mem_of_getElem? (i := 98) rfl)
theorem ow99 {Z : State} {a0 : Array Value} (hw : ∀ d ∈ tables_1, d.before a0 Z = true) : (Jvm.Cond.laysFinal "com/example/nudo/nudo/LoadingResult" "com/example/nudo/nudo/LoadingResult" "vehiclesInNetwork" "I").before a0 Z = true := hw _ (List.mem_of_getElem? (i := 99) rfl)
theorem ow100 {Z : State} {a0 : Array Value} (hw : ∀ d ∈ tables_1, d.before a0 Z = true) : (Jvm.Cond.methodLink "com/example/nudo/nudo/LoadingResultVehiclesExitedPinLaw" (41 : Nat) ({ cls := "com/example/nudo/nudo/LoadingResult", name := "vehiclesExited", desc := "()I" } : Jvm.MethodName)).before a0 Z = true := hw _ (List.mem_of_getElem? (i := 100) rfl)
theorem ow101 {Z : State} {a0 : Array Value} (hw : ∀ d ∈ tables_1, d.before a0 Z = true) : (Jvm.Cond.declares ({ cls := "com/example/nudo/nudo/LoadingResult", name := "vehiclesExited", desc := "()I" } : Jvm.MethodName)).before a0 Z = true := hw _ (List.mem_of_getElem? (i := 101) rfl)
theorem ow102 {Z : State} {a0 : Array Value} (hw : ∀ d ∈ tables_1, d.before a0 Z = true) : (Jvm.Cond.instanceMethod ({ cls := "com/example/nudo/nudo/LoadingResult", name := "vehiclesExited", desc := "()I" } : Jvm.MethodName)).before a0 Z = true := hw _ (List.mem_of_getElem? (i := 102) rfl)
theorem ow103 {Z : State} {a0 : Array Value} (hw : ∀ d ∈ tables_1, d.before a0 Z = true) : (Jvm.Cond.selects "com/example/nudo/nudo/LoadingResult" ({ cls := "com/example/nudo/nudo/LoadingResult", name := "vehiclesExited", desc := "()I" } : Jvm.MethodName) ({ cls := "com/example/nudo/nudo/LoadingResult", name := "vehiclesExited", desc := "()I" } : Jvm.MethodName)).before a0 Z = true := hw _ (List.mem_of_getElem? (i := 103) rfl)
theorem ow104 {Z : State} {a0 : Array Value} (hw : ∀ d ∈ tables_1, d.before a0 Z = true) : (Jvm.Cond.code ({ cls := "com/example/nudo/nudo/LoadingResult", name := "vehiclesExited", desc := "()I" } : Jvm.MethodName) prog_30_method_3_code (1 : Nat) (Option.some Jvm.ClassFile.FieldType.int)).before a0 Z = true := hw _ (List.mem_of_getElem? (i := 104) rfl)
theorem ow105 {Z : State} {a0 : Array Value} (hw : ∀ d ∈ tables_1, d.before a0 Z = true) : (Jvm.Cond.methodLink "com/example/nudo/nudo/LoadingResultVehiclesExitedPinLaw" (22 : Nat) ({ cls := "com/example/nudo/nudo/LoadingResultVehiclesExitedPinLaw", name := "make", desc := "(IIII)Lcom/example/nudo/nudo/Vehicle;" } : Jvm.MethodName)).before a0 Z = true := hw _ (List.mem_of_getElem? (i := 105) rfl)
theorem ow106 {Z : State} {a0 : Array Value} (hw : ∀ d ∈ tables_1, d.before a0 Z = true) : (Jvm.Cond.static ({ cls := "com/example/nudo/nudo/LoadingResultVehiclesExitedPinLaw", name := "make", desc := "(IIII)Lcom/example/nudo/nudo/Vehicle;" } : Jvm.MethodName)).before a0 Z = true := hw _ (List.mem_of_getElem? (i := 106) rfl)
theorem ow107 {Z : State} {a0 : Array Value} (hw : ∀ d ∈ tables_1, d.before a0 Z = true) : (Jvm.Cond.initialized "com/example/nudo/nudo/LoadingResultVehiclesExitedPinLaw").before a0 Z = true := hw _ (List.mem_of_getElem? (i := 107) rfl)
theorem ow108 {Z : State} {a0 : Array Value} (hw : ∀ d ∈ tables_1, d.before a0 Z = true) : (Jvm.Cond.code ({ cls := "com/example/nudo/nudo/LoadingResultVehiclesExitedPinLaw", name := "make", desc := "(IIII)Lcom/example/nudo/nudo/Vehicle;" } : Jvm.MethodName) method_2_code (5 : Nat) (Option.some (Jvm.ClassFile.FieldType.object "com/example/nudo/nudo/Vehicle"))).before a0 Z = true := hw _ (List.mem_of_getElem? (i := 108) rfl)
theorem ow109 {Z : State} {a0 : Array Value} (hw : ∀ d ∈ tables_1, d.before a0 Z = true) : (Jvm.Cond.classLink "com/example/nudo/nudo/LoadingResultVehiclesExitedPinLaw" (7 : Nat) "com/example/nudo/nudo/Vehicle").before a0 Z = true := hw _ (List.mem_of_getElem? (i := 109) rfl)
theorem ow110 {Z : State} {a0 : Array Value} (hw : ∀ d ∈ tables_1, d.before a0 Z = true) : (Jvm.Cond.instantiable "com/example/nudo/nudo/Vehicle" (10 : Nat)).before a0 Z = true := hw _ (List.mem_of_getElem? (i := 110) rfl)
theorem ow111 {Z : State} {a0 : Array Value} (hw : ∀ d ∈ tables_1, d.before a0 Z = true) : (Jvm.Cond.initialized "com/example/nudo/nudo/Vehicle").before a0 Z = true := hw _ (List.mem_of_getElem? (i := 111) rfl)
theorem ow112 {Z : State} {a0 : Array Value} (hw : ∀ d ∈ tables_1, d.before a0 Z = true) : (Jvm.Cond.classLink "com/example/nudo/nudo/LoadingResultVehiclesExitedPinLaw" (9 : Nat) "com/example/nudo/nudo/CellLink").before a0 Z = true := hw _ (List.mem_of_getElem? (i := 112) rfl)
theorem ow113 {Z : State} {a0 : Array Value} (hw : ∀ d ∈ tables_1, d.before a0 Z = true) : (Jvm.Cond.arrayOver (Jvm.ClassFile.FieldType.object "com/example/nudo/nudo/CellLink")).before a0 Z = true := hw _ (List.mem_of_getElem? (i := 113) rfl)
theorem ow114 {Z : State} {a0 : Array Value} (hw : ∀ d ∈ tables_1, d.before a0 Z = true) : (Jvm.Cond.methodLink "com/example/nudo/nudo/LoadingResultVehiclesExitedPinLaw" (11 : Nat) ({ cls := "com/example/nudo/nudo/Vehicle", name := "<init>", desc := "(II[Lcom/example/nudo/nudo/CellLink;ILcom/example/nudo/nudo/VehicleClass;)V" } : Jvm.MethodName)).before a0 Z = true := hw _ (List.mem_of_getElem? (i := 114) rfl)
theorem ow115 {Z : State} {a0 : Array Value} (hw : ∀ d ∈ tables_1, d.before a0 Z = true) : (Jvm.Cond.instanceMethod ({ cls := "com/example/nudo/nudo/Vehicle", name := "<init>", desc := "(II[Lcom/example/nudo/nudo/CellLink;ILcom/example/nudo/nudo/VehicleClass;)V" } : Jvm.MethodName)).before a0 Z = true := hw _ (List.mem_of_getElem? (i := 115) rfl)
theorem ow116 {Z : State} {a0 : Array Value} (hw : ∀ d ∈ tables_1, d.before a0 Z = true) : (Jvm.Cond.code ({ cls := "com/example/nudo/nudo/Vehicle", name := "<init>", desc := "(II[Lcom/example/nudo/nudo/CellLink;ILcom/example/nudo/nudo/VehicleClass;)V" } : Jvm.MethodName) prog_49_method_1_code (6 : Nat) (Option.none : Option Jvm.ClassFile.FieldType)).before a0 Z = true := hw _ (List.mem_of_getElem? (i := 116) rfl)
theorem ow117 {Z : State} {a0 : Array Value} (hw : ∀ d ∈ tables_1, d.before a0 Z = true) : (Jvm.Cond.methodLink "com/example/nudo/nudo/Vehicle" (1 : Nat) ({ cls := "java/lang/Object", name := "<init>", desc := "()V" } : Jvm.MethodName)).before a0 Z = true := hw _ (List.mem_of_getElem? (i := 117) rfl)
theorem ow118 {Z : State} {a0 : Array Value} (hw : ∀ d ∈ tables_1, d.before a0 Z = true) : (Jvm.Cond.fieldLink "com/example/nudo/nudo/Vehicle" (7 : Nat) "com/example/nudo/nudo/Vehicle" "position" "I").before a0 Z = true := hw _ (List.mem_of_getElem? (i := 118) rfl)
theorem ow119 {Z : State} {a0 : Array Value} (hw : ∀ d ∈ tables_1, d.before a0 Z = true) : (Jvm.Cond.lays "com/example/nudo/nudo/Vehicle" "com/example/nudo/nudo/Vehicle" "position" "I").before a0 Z = true := hw _ (List.mem_of_getElem? (i := 119) rfl)
theorem ow120 {Z : State} {a0 : Array Value} (hw : ∀ d ∈ tables_1, d.before a0 Z = true) : (Jvm.Cond.fieldLink "com/example/nudo/nudo/Vehicle" (13 : Nat) "com/example/nudo/nudo/Vehicle" "candidateStep" "I").before a0 Z = true := hw _ (List.mem_of_getElem? (i := 120) rfl)
theorem ow121 {Z : State} {a0 : Array Value} (hw : ∀ d ∈ tables_1, d.before a0 Z = true) : (Jvm.Cond.lays "com/example/nudo/nudo/Vehicle" "com/example/nudo/nudo/Vehicle" "candidateStep" "I").before a0 Z = true := hw _ (List.mem_of_getElem? (i := 121) rfl)
theorem ow122 {Z : State} {a0 : Array Value} (hw : ∀ d ∈ tables_1, d.before a0 Z = true) : (Jvm.Cond.fieldLink "com/example/nudo/nudo/Vehicle" (16 : Nat) "com/example/nudo/nudo/Vehicle" "exitStep" "I").before a0 Z = true := hw _ (List.mem_of_getElem? (i := 122) rfl)
theorem ow123 {Z : State} {a0 : Array Value} (hw : ∀ d ∈ tables_1, d.before a0 Z = true) : (Jvm.Cond.lays "com/example/nudo/nudo/Vehicle" "com/example/nudo/nudo/Vehicle" "exitStep" "I").before a0 Z = true := hw _ (List.mem_of_getElem? (i := 123) rfl)
theorem ow124 {Z : State} {a0 : Array Value} (hw : ∀ d ∈ tables_1, d.before a0 Z = true) : (Jvm.Cond.fieldLink "com/example/nudo/nudo/Vehicle" (19 : Nat) "com/example/nudo/nudo/Vehicle" "trip" "I").before a0 Z = true := hw _ (List.mem_of_getElem? (i := 124) rfl)
theorem ow125 {Z : State} {a0 : Array Value} (hw : ∀ d ∈ tables_1, d.before a0 Z = true) : (Jvm.Cond.laysFinal "com/example/nudo/nudo/Vehicle" "com/example/nudo/nudo/Vehicle" "trip" "I").before a0 Z = true := hw _ (List.mem_of_getElem? (i := 125) rfl)
theorem ow126 {Z : State} {a0 : Array Value} (hw : ∀ d ∈ tables_1, d.before a0 Z = true) : (Jvm.Cond.fieldLink "com/example/nudo/nudo/Vehicle" (22 : Nat) "com/example/nudo/nudo/Vehicle" "rank" "I").before a0 Z = true := hw _ (List.mem_of_getElem? (i := 126) rfl)
theorem ow127 {Z : State} {a0 : Array Value} (hw : ∀ d ∈ tables_1, d.before a0 Z = true) : (Jvm.Cond.laysFinal "com/example/nudo/nudo/Vehicle" "com/example/nudo/nudo/Vehicle" "rank" "I").before a0 Z = true := hw _ (List.mem_of_getElem? (i := 127) rfl)
theorem ow128 {Z : State} {a0 : Array Value} (hw : ∀ d ∈ tables_1, d.before a0 Z = true) : (Jvm.Cond.fieldLink "com/example/nudo/nudo/Vehicle" (25 : Nat) "com/example/nudo/nudo/Vehicle" "path" "[Lcom/example/nudo/nudo/CellLink;").before a0 Z = true := hw _ (List.mem_of_getElem? (i := 128) rfl)
theorem ow129 {Z : State} {a0 : Array Value} (hw : ∀ d ∈ tables_1, d.before a0 Z = true) : (Jvm.Cond.laysFinal "com/example/nudo/nudo/Vehicle" "com/example/nudo/nudo/Vehicle" "path" "[Lcom/example/nudo/nudo/CellLink;").before a0 Z = true := hw _ (List.mem_of_getElem? (i := 129) rfl)
theorem ow130 {Z : State} {a0 : Array Value} (hw : ∀ d ∈ tables_1, d.before a0 Z = true) : (Jvm.Cond.fieldLink "com/example/nudo/nudo/Vehicle" (29 : Nat) "com/example/nudo/nudo/Vehicle" "departureStep" "I").before a0 Z = true := hw _ (List.mem_of_getElem? (i := 130) rfl)
theorem ow131 {Z : State} {a0 : Array Value} (hw : ∀ d ∈ tables_1, d.before a0 Z = true) : (Jvm.Cond.laysFinal "com/example/nudo/nudo/Vehicle" "com/example/nudo/nudo/Vehicle" "departureStep" "I").before a0 Z = true := hw _ (List.mem_of_getElem? (i := 131) rfl)
theorem ow132 {Z : State} {a0 : Array Value} (hw : ∀ d ∈ tables_1, d.before a0 Z = true) : (Jvm.Cond.fieldLink "com/example/nudo/nudo/Vehicle" (32 : Nat) "com/example/nudo/nudo/Vehicle" "vehicleClass" "Lcom/example/nudo/nudo/VehicleClass;").before a0 Z = true := hw _ (List.mem_of_getElem? (i := 132) rfl)
theorem ow133 {Z : State} {a0 : Array Value} (hw : ∀ d ∈ tables_1, d.before a0 Z = true) : (Jvm.Cond.laysFinal "com/example/nudo/nudo/Vehicle" "com/example/nudo/nudo/Vehicle" "vehicleClass" "Lcom/example/nudo/nudo/VehicleClass;").before a0 Z = true := hw _ (List.mem_of_getElem? (i := 133) rfl)
theorem ow134 {Z : State} {a0 : Array Value} (hw : ∀ d ∈ tables_1, d.before a0 Z = true) : (Jvm.Cond.fieldLink "com/example/nudo/nudo/Vehicle" (36 : Nat) "com/example/nudo/nudo/Vehicle" "linkEntrySteps" "[I").before a0 Z = true := hw _ (List.mem_of_getElem? (i := 134) rfl)
theorem ow135 {Z : State} {a0 : Array Value} (hw : ∀ d ∈ tables_1, d.before a0 Z = true) : (Jvm.Cond.laysFinal "com/example/nudo/nudo/Vehicle" "com/example/nudo/nudo/Vehicle" "linkEntrySteps" "[I").before a0 Z = true := hw _ (List.mem_of_getElem? (i := 135) rfl)
theorem ow136 {Z : State} {a0 : Array Value} (hw : ∀ d ∈ tables_1, d.before a0 Z = true) : (Jvm.Cond.methodLink "com/example/nudo/nudo/Vehicle" (40 : Nat) ({ cls := "java/util/Arrays", name := "fill", desc := "([II)V" } : Jvm.MethodName)).before a0 Z = true := hw _ (List.mem_of_getElem? (i := 136) rfl)
theorem ow137 {Z : State} {a0 : Array Value} (hw : ∀ d ∈ tables_1, d.before a0 Z = true) : (Jvm.Cond.static ({ cls := "java/util/Arrays", name := "fill", desc := "([II)V" } : Jvm.MethodName)).before a0 Z = true := hw _ (List.mem_of_getElem? (i := 137) rfl)
theorem ow138 {Z : State} {a0 : Array Value} (hw : ∀ d ∈ tables_1, d.before a0 Z = true) : (Jvm.Cond.initialized "java/util/Arrays").before a0 Z = true := hw _ (List.mem_of_getElem? (i := 138) rfl)
theorem ow139 {Z : State} {a0 : Array Value} (hw : ∀ d ∈ tables_1, d.before a0 Z = true) : (Jvm.Cond.code ({ cls := "java/util/Arrays", name := "fill", desc := "([II)V" } : Jvm.MethodName) jdk_65_method_103_code (4 : Nat) (Option.none : Option Jvm.ClassFile.FieldType)).before a0 Z = true := hw _ (List.mem_of_getElem? (i := 139) rfl)
theorem ow140 {Z : State} {a0 : Array Value} (hw : ∀ d ∈ tables_1, d.before a0 Z = true) : (Jvm.Cond.methodLink "com/example/nudo/nudo/LoadingResultVehiclesExitedPinLaw" (14 : Nat) ({ cls := "com/example/nudo/nudo/Vehicle", name := "exit", desc := "(I)V" } : Jvm.MethodName)).before a0 Z = true := hw _ (List.mem_of_getElem? (i := 140) rfl)
theorem ow141 {Z : State} {a0 : Array Value} (hw : ∀ d ∈ tables_1, d.before a0 Z = true) : (Jvm.Cond.declares ({ cls := "com/example/nudo/nudo/Vehicle", name := "exit", desc := "(I)V" } : Jvm.MethodName)).before a0 Z = true := hw _ (List.mem_of_getElem? (i := 141) rfl)
theorem ow142 {Z : State} {a0 : Array Value} (hw : ∀ d ∈ tables_1, d.before a0 Z = true) : (Jvm.Cond.instanceMethod ({ cls := "com/example/nudo/nudo/Vehicle", name := "exit", desc := "(I)V" } : Jvm.MethodName)).before a0 Z = true := hw _ (List.mem_of_getElem? (i := 142) rfl)
theorem ow143 {Z : State} {a0 : Array Value} (hw : ∀ d ∈ tables_1, d.before a0 Z = true) : (Jvm.Cond.selects "com/example/nudo/nudo/Vehicle" ({ cls := "com/example/nudo/nudo/Vehicle", name := "exit", desc := "(I)V" } : Jvm.MethodName) ({ cls := "com/example/nudo/nudo/Vehicle", name := "exit", desc := "(I)V" } : Jvm.MethodName)).before a0 Z = true := hw _ (List.mem_of_getElem? (i := 143) rfl)
theorem ow144 {Z : State} {a0 : Array Value} (hw : ∀ d ∈ tables_1, d.before a0 Z = true) : (Jvm.Cond.code ({ cls := "com/example/nudo/nudo/Vehicle", name := "exit", desc := "(I)V" } : Jvm.MethodName) prog_49_method_17_code (2 : Nat) (Option.none : Option Jvm.ClassFile.FieldType)).before a0 Z = true := hw _ (List.mem_of_getElem? (i := 144) rfl)
theorem ow145 {Z : State} {a0 : Array Value} (hw : ∀ d ∈ tables_1, d.before a0 Z = true) : (Jvm.Cond.methodLink "com/example/nudo/nudo/LoadingResultVehiclesExitedPinLaw" (28 : Nat) ({ cls := "java/util/ArrayList", name := "add", desc := "(Ljava/lang/Object;)Z" } : Jvm.MethodName)).before a0 Z = true := hw _ (List.mem_of_getElem? (i := 145) rfl)
theorem ow146 {Z : State} {a0 : Array Value} (hw : ∀ d ∈ tables_1, d.before a0 Z = true) : (Jvm.Cond.declares ({ cls := "java/util/ArrayList", name := "add", desc := "(Ljava/lang/Object;)Z" } : Jvm.MethodName)).before a0 Z = true := hw _ (List.mem_of_getElem? (i := 146) rfl)
theorem ow147 {Z : State} {a0 : Array Value} (hw : ∀ d ∈ tables_1, d.before a0 Z = true) : (Jvm.Cond.instanceMethod ({ cls := "java/util/ArrayList", name := "add", desc := "(Ljava/lang/Object;)Z" } : Jvm.MethodName)).before a0 Z = true := hw _ (List.mem_of_getElem? (i := 147) rfl)
theorem ow148 {Z : State} {a0 : Array Value} (hw : ∀ d ∈ tables_1, d.before a0 Z = true) : (Jvm.Cond.selects "java/util/ArrayList" ({ cls := "java/util/ArrayList", name := "add", desc := "(Ljava/lang/Object;)Z" } : Jvm.MethodName) ({ cls := "java/util/ArrayList", name := "add", desc := "(Ljava/lang/Object;)Z" } : Jvm.MethodName)).before a0 Z = true := hw _ (List.mem_of_getElem? (i := 148) rfl)
theorem ow149 {Z : State} {a0 : Array Value} (hw : ∀ d ∈ tables_1, d.before a0 Z = true) : (Jvm.Cond.code ({ cls := "java/util/ArrayList", name := "add", desc := "(Ljava/lang/Object;)Z" } : Jvm.MethodName) jdk_38_method_25_code (2 : Nat) (Option.some Jvm.ClassFile.FieldType.boolean)).before a0 Z = true := hw _ (List.mem_of_getElem? (i := 149) rfl)
theorem ow150 {Z : State} {a0 : Array Value} (hw : ∀ d ∈ tables_1, d.before a0 Z = true) : (Jvm.Cond.fieldLink "java/util/ArrayList" (63 : Nat) "java/util/ArrayList" "modCount" "I").before a0 Z = true := hw _ (List.mem_of_getElem? (i := 150) rfl)
theorem ow151 {Z : State} {a0 : Array Value} (hw : ∀ d ∈ tables_1, d.before a0 Z = true) : (Jvm.Cond.methodLink "java/util/ArrayList" (131 : Nat) ({ cls := "java/util/ArrayList", name := "add", desc := "(Ljava/lang/Object;[Ljava/lang/Object;I)V" } : Jvm.MethodName)).before a0 Z = true := hw _ (List.mem_of_getElem? (i := 151) rfl)
theorem ow152 {Z : State} {a0 : Array Value} (hw : ∀ d ∈ tables_1, d.before a0 Z = true) : (Jvm.Cond.instanceMethod ({ cls := "java/util/ArrayList", name := "add", desc := "(Ljava/lang/Object;[Ljava/lang/Object;I)V" } : Jvm.MethodName)).before a0 Z = true := hw _ (List.mem_of_getElem? (i := 152) rfl)
theorem ow153 {Z : State} {a0 : Array Value} (hw : ∀ d ∈ tables_1, d.before a0 Z = true) : (Jvm.Cond.privateMethod ({ cls := "java/util/ArrayList", name := "add", desc := "(Ljava/lang/Object;[Ljava/lang/Object;I)V" } : Jvm.MethodName)).before a0 Z = true := hw _ (List.mem_of_getElem? (i := 153) rfl)
theorem ow154 {Z : State} {a0 : Array Value} (hw : ∀ d ∈ tables_1, d.before a0 Z = true) : (Jvm.Cond.selects "java/util/ArrayList" ({ cls := "java/util/ArrayList", name := "add", desc := "(Ljava/lang/Object;[Ljava/lang/Object;I)V" } : Jvm.MethodName) ({ cls := "java/util/ArrayList", name := "add", desc := "(Ljava/lang/Object;[Ljava/lang/Object;I)V" } : Jvm.MethodName)).before a0 Z = true := hw _ (List.mem_of_getElem? (i := 154) rfl)
theorem ow155 {Z : State} {a0 : Array Value} (hw : ∀ d ∈ tables_1, d.before a0 Z = true) : (Jvm.Cond.code ({ cls := "java/util/ArrayList", name := "add", desc := "(Ljava/lang/Object;[Ljava/lang/Object;I)V" } : Jvm.MethodName) jdk_38_method_24_code (4 : Nat) (Option.none : Option Jvm.ClassFile.FieldType)).before a0 Z = true := hw _ (List.mem_of_getElem? (i := 155) rfl)
theorem ow156 {Z : State} {a0 : Array Value} (hw : ∀ d ∈ tables_1, d.before a0 Z = true) : (Jvm.Cond.methodLink "java/util/ArrayList" (129 : Nat) ({ cls := "java/util/ArrayList", name := "grow", desc := "()[Ljava/lang/Object;" } : Jvm.MethodName)).before a0 Z = true := hw _ (List.mem_of_getElem? (i := 156) rfl)
theorem ow157 {Z : State} {a0 : Array Value} (hw : ∀ d ∈ tables_1, d.before a0 Z = true) : (Jvm.Cond.instanceMethod ({ cls := "java/util/ArrayList", name := "grow", desc := "()[Ljava/lang/Object;" } : Jvm.MethodName)).before a0 Z = true := hw _ (List.mem_of_getElem? (i := 157) rfl)
theorem ow158 {Z : State} {a0 : Array Value} (hw : ∀ d ∈ tables_1, d.before a0 Z = true) : (Jvm.Cond.privateMethod ({ cls := "java/util/ArrayList", name := "grow", desc := "()[Ljava/lang/Object;" } : Jvm.MethodName)).before a0 Z = true := hw _ (List.mem_of_getElem? (i := 158) rfl)
theorem ow159 {Z : State} {a0 : Array Value} (hw : ∀ d ∈ tables_1, d.before a0 Z = true) : (Jvm.Cond.selects "java/util/ArrayList" ({ cls := "java/util/ArrayList", name := "grow", desc := "()[Ljava/lang/Object;" } : Jvm.MethodName) ({ cls := "java/util/ArrayList", name := "grow", desc := "()[Ljava/lang/Object;" } : Jvm.MethodName)).before a0 Z = true := hw _ (List.mem_of_getElem? (i := 159) rfl)
theorem ow160 {Z : State} {a0 : Array Value} (hw : ∀ d ∈ tables_1, d.before a0 Z = true) : (Jvm.Cond.code ({ cls := "java/util/ArrayList", name := "grow", desc := "()[Ljava/lang/Object;" } : Jvm.MethodName) jdk_38_method_7_code (1 : Nat) (Option.some (Jvm.ClassFile.FieldType.array (Jvm.ClassFile.FieldType.object "java/lang/Object")))).before a0 Z = true := hw _ (List.mem_of_getElem? (i := 160) rfl)
theorem ow161 {Z : State} {a0 : Array Value} (hw : ∀ d ∈ tables_1, d.before a0 Z = true) : (Jvm.Cond.methodLink "java/util/ArrayList" (69 : Nat) ({ cls := "java/util/ArrayList", name := "grow", desc := "(I)[Ljava/lang/Object;" } : Jvm.MethodName)).before a0 Z = true := hw _ (List.mem_of_getElem? (i := 161) rfl)
theorem ow162 {Z : State} {a0 : Array Value} (hw : ∀ d ∈ tables_1, d.before a0 Z = true) : (Jvm.Cond.instanceMethod ({ cls := "java/util/ArrayList", name := "grow", desc := "(I)[Ljava/lang/Object;" } : Jvm.MethodName)).before a0 Z = true := hw _ (List.mem_of_getElem? (i := 162) rfl)
theorem ow163 {Z : State} {a0 : Array Value} (hw : ∀ d ∈ tables_1, d.before a0 Z = true) : (Jvm.Cond.privateMethod ({ cls := "java/util/ArrayList", name := "grow", desc := "(I)[Ljava/lang/Object;" } : Jvm.MethodName)).before a0 Z = true := hw _ (List.mem_of_getElem? (i := 163) rfl)
theorem ow164 {Z : State} {a0 : Array Value} (hw : ∀ d ∈ tables_1, d.before a0 Z = true) : (Jvm.Cond.selects "java/util/ArrayList" ({ cls := "java/util/ArrayList", name := "grow", desc := "(I)[Ljava/lang/Object;" } : Jvm.MethodName) ({ cls := "java/util/ArrayList", name := "grow", desc := "(I)[Ljava/lang/Object;" } : Jvm.MethodName)).before a0 Z = true := hw _ (List.mem_of_getElem? (i := 164) rfl)
theorem ow165 {Z : State} {a0 : Array Value} (hw : ∀ d ∈ tables_1, d.before a0 Z = true) : (Jvm.Cond.code ({ cls := "java/util/ArrayList", name := "grow", desc := "(I)[Ljava/lang/Object;" } : Jvm.MethodName) jdk_38_method_6_code (4 : Nat) (Option.some (Jvm.ClassFile.FieldType.array (Jvm.ClassFile.FieldType.object "java/lang/Object")))).before a0 Z = true := hw _ (List.mem_of_getElem? (i := 165) rfl)
theorem ow166 {Z : State} {a0 : Array Value} (hw : ∀ d ∈ tables_1, d.before a0 Z = true) : (Jvm.Cond.methodLink "java/util/ArrayList" (79 : Nat) ({ cls := "java/lang/Math", name := "max", desc := "(II)I" } : Jvm.MethodName)).before a0 Z = true := hw _ (List.mem_of_getElem? (i := 166) rfl)
theorem ow167 {Z : State} {a0 : Array Value} (hw : ∀ d ∈ tables_1, d.before a0 Z = true) : (Jvm.Cond.static ({ cls := "java/lang/Math", name := "max", desc := "(II)I" } : Jvm.MethodName)).before a0 Z = true := hw _ (List.mem_of_getElem? (i := 167) rfl)
theorem ow168 {Z : State} {a0 : Array Value} (hw : ∀ d ∈ tables_1, d.before a0 Z = true) : (Jvm.Cond.initialized "java/lang/Math").before a0 Z = true := hw _ (List.mem_of_getElem? (i := 168) rfl)
theorem ow169 {Z : State} {a0 : Array Value} (hw : ∀ d ∈ tables_1, d.before a0 Z = true) : (Jvm.Cond.code ({ cls := "java/lang/Math", name := "max", desc := "(II)I" } : Jvm.MethodName) jdk_29_method_65_code (2 : Nat) (Option.some Jvm.ClassFile.FieldType.int)).before a0 Z = true := hw _ (List.mem_of_getElem? (i := 169) rfl)
theorem ow170 {Z : State} {a0 : Array Value} (hw : ∀ d ∈ tables_1, d.before a0 Z = true) : (Jvm.Cond.classLink "java/util/ArrayList" (7 : Nat) "java/lang/Object").before a0 Z = true := hw _ (List.mem_of_getElem? (i := 170) rfl)
theorem ow171 {Z : State} {a0 : Array Value} (hw : ∀ d ∈ tables_1, d.before a0 Z = true) : (Jvm.Cond.arrayOver (Jvm.ClassFile.FieldType.object "java/lang/Object")).before a0 Z = true := hw _ (List.mem_of_getElem? (i := 171) rfl)
theorem ow172 {Z : State} {a0 : Array Value} (hw : ∀ d ∈ tables_1, d.before a0 Z = true) : (Jvm.Cond.castable "com/example/nudo/nudo/Vehicle" "java/lang/Object").before a0 Z = true := hw _ (List.mem_of_getElem? (i := 172) rfl)
theorem ow173 {Z : State} {a0 : Array Value} (hw : ∀ d ∈ tables_1, d.before a0 Z = true) : (Jvm.Cond.methodLink "com/example/nudo/nudo/LoadingResultVehiclesExitedPinLaw" (32 : Nat) ({ cls := "com/example/nudo/nudo/LoadingResultVehiclesExitedPinLaw", name := "is", desc := "(Z)I" } : Jvm.MethodName)).before a0 Z = true := hw _ (List.mem_of_getElem? (i := 173) rfl)
theorem ow174 {Z : State} {a0 : Array Value} (hw : ∀ d ∈ tables_1, d.before a0 Z = true) : (Jvm.Cond.static ({ cls := "com/example/nudo/nudo/LoadingResultVehiclesExitedPinLaw", name := "is", desc := "(Z)I" } : Jvm.MethodName)).before a0 Z = true := hw _ (List.mem_of_getElem? (i := 174) rfl)
theorem ow175 {Z : State} {a0 : Array Value} (hw : ∀ d ∈ tables_1, d.before a0 Z = true) : (Jvm.Cond.code ({ cls := "com/example/nudo/nudo/LoadingResultVehiclesExitedPinLaw", name := "is", desc := "(Z)I" } : Jvm.MethodName) method_3_code (1 : Nat) (Option.some Jvm.ClassFile.FieldType.int)).before a0 Z = true := hw _ (List.mem_of_getElem? (i := 175) rfl)
theorem ow176 {Z : State} {a0 : Array Value} (hw : ∀ d ∈ tables_1, d.before a0 Z = true) : (Jvm.Cond.methodLink "com/example/nudo/nudo/LoadingResult" (44 : Nat) ({ cls := "java/util/Iterator", name := "next", desc := "()Ljava/lang/Object;" } : Jvm.MethodName)).before a0 Z = true := hw _ (List.mem_of_getElem? (i := 176) rfl)
theorem ow177 {Z : State} {a0 : Array Value} (hw : ∀ d ∈ tables_1, d.before a0 Z = true) : (Jvm.Cond.declares ({ cls := "java/util/Iterator", name := "next", desc := "()Ljava/lang/Object;" } : Jvm.MethodName)).before a0 Z = true := hw _ (List.mem_of_getElem? (i := 177) rfl)
theorem ow178 {Z : State} {a0 : Array Value} (hw : ∀ d ∈ tables_1, d.before a0 Z = true) : (Jvm.Cond.interfaceMethod "java/util/Iterator" "java/util/Iterator" "next" "()Ljava/lang/Object;").before a0 Z = true := hw _ (List.mem_of_getElem? (i := 178) rfl)
theorem ow179 {Z : State} {a0 : Array Value} (hw : ∀ d ∈ tables_1, d.before a0 Z = true) : (Jvm.Cond.selects "java/util/ArrayList$Itr" ({ cls := "java/util/Iterator", name := "next", desc := "()Ljava/lang/Object;" } : Jvm.MethodName) ({ cls := "java/util/ArrayList$Itr", name := "next", desc := "()Ljava/lang/Object;" } : Jvm.MethodName)).before a0 Z = true := hw _ (List.mem_of_getElem? (i := 179) rfl)
theorem ow180 {Z : State} {a0 : Array Value} (hw : ∀ d ∈ tables_1, d.before a0 Z = true) : (Jvm.Cond.instanceMethod ({ cls := "java/util/ArrayList$Itr", name := "next", desc := "()Ljava/lang/Object;" } : Jvm.MethodName)).before a0 Z = true := hw _ (List.mem_of_getElem? (i := 180) rfl)
theorem ow181 {Z : State} {a0 : Array Value} (hw : ∀ d ∈ tables_1, d.before a0 Z = true) : (Jvm.Cond.publicMethod ({ cls := "java/util/ArrayList$Itr", name := "next", desc := "()Ljava/lang/Object;" } : Jvm.MethodName)).before a0 Z = true := hw _ (List.mem_of_getElem? (i := 181) rfl)
theorem ow182 {Z : State} {a0 : Array Value} (hw : ∀ d ∈ tables_1, d.before a0 Z = true) : (Jvm.Cond.unhidden "java/util/ArrayList$Itr" "next" "()Ljava/lang/Object;").before a0 Z = true := hw _ (List.mem_of_getElem? (i := 182) rfl)
theorem ow183 {Z : State} {a0 : Array Value} (hw : ∀ d ∈ tables_1, d.before a0 Z = true) : (Jvm.Cond.code ({ cls := "java/util/ArrayList$Itr", name := "next", desc := "()Ljava/lang/Object;" } : Jvm.MethodName) jdk_49_method_3_code (3 : Nat) (Option.some (Jvm.ClassFile.FieldType.object "java/lang/Object"))).before a0 Z = true := hw _ (List.mem_of_getElem? (i := 183) rfl)
theorem ow184 {Z : State} {a0 : Array Value} (hw : ∀ d ∈ tables_1, d.before a0 Z = true) : (Jvm.Cond.methodLink "java/util/ArrayList$Itr" (31 : Nat) ({ cls := "java/util/ArrayList$Itr", name := "checkForComodification", desc := "()V" } : Jvm.MethodName)).before a0 Z = true := hw _ (List.mem_of_getElem? (i := 184) rfl)
theorem ow185 {Z : State} {a0 : Array Value} (hw : ∀ d ∈ tables_1, d.before a0 Z = true) : (Jvm.Cond.declares ({ cls := "java/util/ArrayList$Itr", name := "checkForComodification", desc := "()V" } : Jvm.MethodName)).before a0 Z = true := hw _ (List.mem_of_getElem? (i := 185) rfl)
theorem ow186 {Z : State} {a0 : Array Value} (hw : ∀ d ∈ tables_1, d.before a0 Z = true) : (Jvm.Cond.instanceMethod ({ cls := "java/util/ArrayList$Itr", name := "checkForComodification", desc := "()V" } : Jvm.MethodName)).before a0 Z = true := hw _ (List.mem_of_getElem? (i := 186) rfl)
theorem ow187 {Z : State} {a0 : Array Value} (hw : ∀ d ∈ tables_1, d.before a0 Z = true) : (Jvm.Cond.selects "java/util/ArrayList$Itr" ({ cls := "java/util/ArrayList$Itr", name := "checkForComodification", desc := "()V" } : Jvm.MethodName) ({ cls := "java/util/ArrayList$Itr", name := "checkForComodification", desc := "()V" } : Jvm.MethodName)).before a0 Z = true := hw _ (List.mem_of_getElem? (i := 187) rfl)
theorem ow188 {Z : State} {a0 : Array Value} (hw : ∀ d ∈ tables_1, d.before a0 Z = true) : (Jvm.Cond.code ({ cls := "java/util/ArrayList$Itr", name := "checkForComodification", desc := "()V" } : Jvm.MethodName) jdk_49_method_6_code (1 : Nat) (Option.none : Option Jvm.ClassFile.FieldType)).before a0 Z = true := hw _ (List.mem_of_getElem? (i := 188) rfl)
theorem ow189 {Z : State} {a0 : Array Value} (hw : ∀ d ∈ tables_1, d.before a0 Z = true) : (Jvm.Cond.fieldLink "java/util/ArrayList$Itr" (37 : Nat) "java/util/ArrayList" "elementData" "[Ljava/lang/Object;").before a0 Z = true := hw _ (List.mem_of_getElem? (i := 189) rfl)
theorem ow190 {Z : State} {a0 : Array Value} (hw : ∀ d ∈ tables_1, d.before a0 Z = true) : (Jvm.Cond.classLink "com/example/nudo/nudo/LoadingResult" (48 : Nat) "com/example/nudo/nudo/Vehicle").before a0 Z = true := hw _ (List.mem_of_getElem? (i := 190) rfl)
theorem ow192 {Z : State} {a0 : Array Value} (hw : ∀ d ∈ tables_1, d.before a0 Z = true) : (Jvm.Cond.methodLink "com/example/nudo/nudo/LoadingResult" (50 : Nat) ({ cls := "com/example/nudo/nudo/Vehicle", name := "trip", desc := "()I" } : Jvm.MethodName)).before a0 Z = true := hw _ (List.mem_of_getElem? (i := 192) rfl)
theorem ow193 {Z : State} {a0 : Array Value} (hw : ∀ d ∈ tables_1, d.before a0 Z = true) : (Jvm.Cond.declares ({ cls := "com/example/nudo/nudo/Vehicle", name := "trip", desc := "()I" } : Jvm.MethodName)).before a0 Z = true := hw _ (List.mem_of_getElem? (i := 193) rfl)
theorem ow194 {Z : State} {a0 : Array Value} (hw : ∀ d ∈ tables_1, d.before a0 Z = true) : (Jvm.Cond.instanceMethod ({ cls := "com/example/nudo/nudo/Vehicle", name := "trip", desc := "()I" } : Jvm.MethodName)).before a0 Z = true := hw _ (List.mem_of_getElem? (i := 194) rfl)
theorem ow195 {Z : State} {a0 : Array Value} (hw : ∀ d ∈ tables_1, d.before a0 Z = true) : (Jvm.Cond.selects "com/example/nudo/nudo/Vehicle" ({ cls := "com/example/nudo/nudo/Vehicle", name := "trip", desc := "()I" } : Jvm.MethodName) ({ cls := "com/example/nudo/nudo/Vehicle", name := "trip", desc := "()I" } : Jvm.MethodName)).before a0 Z = true := hw _ (List.mem_of_getElem? (i := 195) rfl)
theorem ow196 {Z : State} {a0 : Array Value} (hw : ∀ d ∈ tables_1, d.before a0 Z = true) : (Jvm.Cond.code ({ cls := "com/example/nudo/nudo/Vehicle", name := "trip", desc := "()I" } : Jvm.MethodName) prog_49_method_2_code (1 : Nat) (Option.some Jvm.ClassFile.FieldType.int)).before a0 Z = true := hw _ (List.mem_of_getElem? (i := 196) rfl)
theorem ow197 {Z : State} {a0 : Array Value} (hw : ∀ d ∈ tables_1, d.before a0 Z = true) : (Jvm.Cond.methodLink "com/example/nudo/nudo/LoadingResult" (53 : Nat) ({ cls := "com/example/nudo/nudo/Vehicle", name := "departureStep", desc := "()I" } : Jvm.MethodName)).before a0 Z = true := hw _ (List.mem_of_getElem? (i := 197) rfl)
theorem ow198 {Z : State} {a0 : Array Value} (hw : ∀ d ∈ tables_1, d.before a0 Z = true) : (Jvm.Cond.declares ({ cls := "com/example/nudo/nudo/Vehicle", name := "departureStep", desc := "()I" } : Jvm.MethodName)).before a0 Z = true := hw _ (List.mem_of_getElem? (i := 198) rfl)
theorem ow199 {Z : State} {a0 : Array Value} (hw : ∀ d ∈ tables_1, d.before a0 Z = true) : (Jvm.Cond.instanceMethod ({ cls := "com/example/nudo/nudo/Vehicle", name := "departureStep", desc := "()I" } : Jvm.MethodName)).before a0 Z = true := hw _ (List.mem_of_getElem? (i := 199) rfl)
theorem ow200 {Z : State} {a0 : Array Value} (hw : ∀ d ∈ tables_1, d.before a0 Z = true) : (Jvm.Cond.selects "com/example/nudo/nudo/Vehicle" ({ cls := "com/example/nudo/nudo/Vehicle", name := "departureStep", desc := "()I" } : Jvm.MethodName) ({ cls := "com/example/nudo/nudo/Vehicle", name := "departureStep", desc := "()I" } : Jvm.MethodName)).before a0 Z = true := hw _ (List.mem_of_getElem? (i := 200) rfl)
theorem ow201 {Z : State} {a0 : Array Value} (hw : ∀ d ∈ tables_1, d.before a0 Z = true) : (Jvm.Cond.code ({ cls := "com/example/nudo/nudo/Vehicle", name := "departureStep", desc := "()I" } : Jvm.MethodName) prog_49_method_4_code (1 : Nat) (Option.some Jvm.ClassFile.FieldType.int)).before a0 Z = true := hw _ (List.mem_of_getElem? (i := 201) rfl)
theorem ow202 {Z : State} {a0 : Array Value} (hw : ∀ d ∈ tables_1, d.before a0 Z = true) : (Jvm.Cond.methodLink "com/example/nudo/nudo/LoadingResult" (56 : Nat) ({ cls := "com/example/nudo/nudo/Vehicle", name := "exitStep", desc := "()I" } : Jvm.MethodName)).before a0 Z = true := hw _ (List.mem_of_getElem? (i := 202) rfl)
theorem ow203 {Z : State} {a0 : Array Value} (hw : ∀ d ∈ tables_1, d.before a0 Z = true) : (Jvm.Cond.declares ({ cls := "com/example/nudo/nudo/Vehicle", name := "exitStep", desc := "()I" } : Jvm.MethodName)).before a0 Z = true := hw _ (List.mem_of_getElem? (i := 203) rfl)
theorem ow204 {Z : State} {a0 : Array Value} (hw : ∀ d ∈ tables_1, d.before a0 Z = true) : (Jvm.Cond.instanceMethod ({ cls := "com/example/nudo/nudo/Vehicle", name := "exitStep", desc := "()I" } : Jvm.MethodName)).before a0 Z = true := hw _ (List.mem_of_getElem? (i := 204) rfl)
theorem ow205 {Z : State} {a0 : Array Value} (hw : ∀ d ∈ tables_1, d.before a0 Z = true) : (Jvm.Cond.selects "com/example/nudo/nudo/Vehicle" ({ cls := "com/example/nudo/nudo/Vehicle", name := "exitStep", desc := "()I" } : Jvm.MethodName) ({ cls := "com/example/nudo/nudo/Vehicle", name := "exitStep", desc := "()I" } : Jvm.MethodName)).before a0 Z = true := hw _ (List.mem_of_getElem? (i := 205) rfl)
theorem ow206 {Z : State} {a0 : Array Value} (hw : ∀ d ∈ tables_1, d.before a0 Z = true) : (Jvm.Cond.code ({ cls := "com/example/nudo/nudo/Vehicle", name := "exitStep", desc := "()I" } : Jvm.MethodName) prog_49_method_8_code (1 : Nat) (Option.some Jvm.ClassFile.FieldType.int)).before a0 Z = true := hw _ (List.mem_of_getElem? (i := 206) rfl)
theorem ow207 {Z : State} {a0 : Array Value} (hw : ∀ d ∈ tables_1, d.before a0 Z = true) : (Jvm.Cond.methodLink "com/example/nudo/nudo/LoadingResult" (59 : Nat) ({ cls := "com/example/nudo/nudo/Vehicle", name := "pathCells", desc := "()I" } : Jvm.MethodName)).before a0 Z = true := hw _ (List.mem_of_getElem? (i := 207) rfl)
theorem ow208 {Z : State} {a0 : Array Value} (hw : ∀ d ∈ tables_1, d.before a0 Z = true) : (Jvm.Cond.declares ({ cls := "com/example/nudo/nudo/Vehicle", name := "pathCells", desc := "()I" } : Jvm.MethodName)).before a0 Z = true := hw _ (List.mem_of_getElem? (i := 208) rfl)
theorem ow209 {Z : State} {a0 : Array Value} (hw : ∀ d ∈ tables_1, d.before a0 Z = true) : (Jvm.Cond.instanceMethod ({ cls := "com/example/nudo/nudo/Vehicle", name := "pathCells", desc := "()I" } : Jvm.MethodName)).before a0 Z = true := hw _ (List.mem_of_getElem? (i := 209) rfl)
theorem ow210 {Z : State} {a0 : Array Value} (hw : ∀ d ∈ tables_1, d.before a0 Z = true) : (Jvm.Cond.selects "com/example/nudo/nudo/Vehicle" ({ cls := "com/example/nudo/nudo/Vehicle", name := "pathCells", desc := "()I" } : Jvm.MethodName) ({ cls := "com/example/nudo/nudo/Vehicle", name := "pathCells", desc := "()I" } : Jvm.MethodName)).before a0 Z = true := hw _ (List.mem_of_getElem? (i := 210) rfl)
theorem ow211 {Z : State} {a0 : Array Value} (hw : ∀ d ∈ tables_1, d.before a0 Z = true) : (Jvm.Cond.code ({ cls := "com/example/nudo/nudo/Vehicle", name := "pathCells", desc := "()I" } : Jvm.MethodName) prog_49_method_9_code (6 : Nat) (Option.some Jvm.ClassFile.FieldType.int)).before a0 Z = true := hw _ (List.mem_of_getElem? (i := 211) rfl)
theorem ow212 {Z : State} {a0 : Array Value} (hw : ∀ d ∈ tables_1, d.before a0 Z = true) : (Jvm.Cond.methodLink "com/example/nudo/nudo/LoadingResult" (62 : Nat) ({ cls := "com/example/nudo/nudo/Vehicle", name := "linksEntered", desc := "()I" } : Jvm.MethodName)).before a0 Z = true := hw _ (List.mem_of_getElem? (i := 212) rfl)
theorem ow213 {Z : State} {a0 : Array Value} (hw : ∀ d ∈ tables_1, d.before a0 Z = true) : (Jvm.Cond.declares ({ cls := "com/example/nudo/nudo/Vehicle", name := "linksEntered", desc := "()I" } : Jvm.MethodName)).before a0 Z = true := hw _ (List.mem_of_getElem? (i := 213) rfl)
theorem ow214 {Z : State} {a0 : Array Value} (hw : ∀ d ∈ tables_1, d.before a0 Z = true) : (Jvm.Cond.instanceMethod ({ cls := "com/example/nudo/nudo/Vehicle", name := "linksEntered", desc := "()I" } : Jvm.MethodName)).before a0 Z = true := hw _ (List.mem_of_getElem? (i := 214) rfl)
theorem ow215 {Z : State} {a0 : Array Value} (hw : ∀ d ∈ tables_1, d.before a0 Z = true) : (Jvm.Cond.selects "com/example/nudo/nudo/Vehicle" ({ cls := "com/example/nudo/nudo/Vehicle", name := "linksEntered", desc := "()I" } : Jvm.MethodName) ({ cls := "com/example/nudo/nudo/Vehicle", name := "linksEntered", desc := "()I" } : Jvm.MethodName)).before a0 Z = true := hw _ (List.mem_of_getElem? (i := 215) rfl)
theorem ow216 {Z : State} {a0 : Array Value} (hw : ∀ d ∈ tables_1, d.before a0 Z = true) : (Jvm.Cond.code ({ cls := "com/example/nudo/nudo/Vehicle", name := "linksEntered", desc := "()I" } : Jvm.MethodName) prog_49_method_6_code (1 : Nat) (Option.some Jvm.ClassFile.FieldType.int)).before a0 Z = true := hw _ (List.mem_of_getElem? (i := 216) rfl)
theorem ow218 {Z : State} {a0 : Array Value} (hw : ∀ d ∈ tables_1, d.before a0 Z = true) : (Jvm.Cond.methodLink "com/example/nudo/nudo/LoadingResultVehiclesExitedPinLaw" (45 : Nat) ({ cls := "com/example/nudo/nudo/LoadingResult", name := "exited", desc := "(I)Z" } : Jvm.MethodName)).before a0 Z = true := hw _ (List.mem_of_getElem? (i := 218) rfl)
theorem ow219 {Z : State} {a0 : Array Value} (hw : ∀ d ∈ tables_1, d.before a0 Z = true) : (Jvm.Cond.declares ({ cls := "com/example/nudo/nudo/LoadingResult", name := "exited", desc := "(I)Z" } : Jvm.MethodName)).before a0 Z = true := hw _ (List.mem_of_getElem? (i := 219) rfl)
theorem ow220 {Z : State} {a0 : Array Value} (hw : ∀ d ∈ tables_1, d.before a0 Z = true) : (Jvm.Cond.instanceMethod ({ cls := "com/example/nudo/nudo/LoadingResult", name := "exited", desc := "(I)Z" } : Jvm.MethodName)).before a0 Z = true := hw _ (List.mem_of_getElem? (i := 220) rfl)
theorem ow221 {Z : State} {a0 : Array Value} (hw : ∀ d ∈ tables_1, d.before a0 Z = true) : (Jvm.Cond.selects "com/example/nudo/nudo/LoadingResult" ({ cls := "com/example/nudo/nudo/LoadingResult", name := "exited", desc := "(I)Z" } : Jvm.MethodName) ({ cls := "com/example/nudo/nudo/LoadingResult", name := "exited", desc := "(I)Z" } : Jvm.MethodName)).before a0 Z = true := hw _ (List.mem_of_getElem? (i := 221) rfl)
theorem ow222 {Z : State} {a0 : Array Value} (hw : ∀ d ∈ tables_1, d.before a0 Z = true) : (Jvm.Cond.code ({ cls := "com/example/nudo/nudo/LoadingResult", name := "exited", desc := "(I)Z" } : Jvm.MethodName) prog_30_method_6_code (2 : Nat) (Option.some Jvm.ClassFile.FieldType.boolean)).before a0 Z = true := hw _ (List.mem_of_getElem? (i := 222) rfl)
theorem own_sn0 {Z : State} {a0 : Array Value} (hw : ∀ d ∈ tables_1, d.before a0 Z = true) : Jvm.RoadKit.slotOf Z "java/util/ArrayList" "size" "I" ≠ Jvm.RoadKit.slotOf Z "java/util/AbstractList" "modCount" "I" := slot_ne (Or.inl (ow46 hw)) (Or.inl (ow23 hw)) (by decide +kernel) (t := .int) (t' := .int) own_fd0 own_fd0
theorem own_sn1 {Z : State} {a0 : Array Value} (hw : ∀ d ∈ tables_1, d.before a0 Z = true) : Jvm.RoadKit.slotOf Z "java/util/ArrayList" "elementData" "[Ljava/lang/Object;" ≠ Jvm.RoadKit.slotOf Z "java/util/AbstractList" "modCount" "I" := slot_ne (Or.inl (ow26 hw)) (Or.inl (ow23 hw)) (by decide +kernel) (t := (.array (.object "java/lang/Object"))) (t' := .int) own_fd1 own_fd0
theorem own_sn2 {Z : State} {a0 : Array Value} (hw : ∀ d ∈ tables_1, d.before a0 Z = true) : Jvm.RoadKit.slotOf Z "java/util/ArrayList" "size" "I" ≠ Jvm.RoadKit.slotOf Z "java/util/ArrayList" "elementData" "[Ljava/lang/Object;" := slot_ne (Or.inl (ow46 hw)) (Or.inl (ow26 hw)) (by decide +kernel) (t := .int) (t' := (.array (.object "java/lang/Object"))) own_fd0 own_fd1
theorem own_sn3 {Z : State} {a0 : Array Value} (hw : ∀ d ∈ tables_1, d.before a0 Z = true) : Jvm.RoadKit.slotOf Z "com/example/nudo/nudo/Vehicle" "candidateStep" "I" ≠ Jvm.RoadKit.slotOf Z "com/example/nudo/nudo/Vehicle" "position" "I" := slot_ne (Or.inl (ow121 hw)) (Or.inl (ow119 hw)) (by decide +kernel) (t := .int) (t' := .int) own_fd0 own_fd0
theorem own_sn4 {Z : State} {a0 : Array Value} (hw : ∀ d ∈ tables_1, d.before a0 Z = true) : Jvm.RoadKit.slotOf Z "com/example/nudo/nudo/Vehicle" "exitStep" "I" ≠ Jvm.RoadKit.slotOf Z "com/example/nudo/nudo/Vehicle" "position" "I" := slot_ne (Or.inl (ow123 hw)) (Or.inl (ow119 hw)) (by decide +kernel) (t := .int) (t' := .int) own_fd0 own_fd0
theorem own_sn5 {Z : State} {a0 : Array Value} (hw : ∀ d ∈ tables_1, d.before a0 Z = true) : Jvm.RoadKit.slotOf Z "com/example/nudo/nudo/Vehicle" "trip" "I" ≠ Jvm.RoadKit.slotOf Z "com/example/nudo/nudo/Vehicle" "position" "I" := slot_ne (Or.inr (ow125 hw)) (Or.inl (ow119 hw)) (by decide +kernel) (t := .int) (t' := .int) own_fd0 own_fd0
theorem own_sn6 {Z : State} {a0 : Array Value} (hw : ∀ d ∈ tables_1, d.before a0 Z = true) : Jvm.RoadKit.slotOf Z "com/example/nudo/nudo/Vehicle" "rank" "I" ≠ Jvm.RoadKit.slotOf Z "com/example/nudo/nudo/Vehicle" "position" "I" := slot_ne (Or.inr (ow127 hw)) (Or.inl (ow119 hw)) (by decide +kernel) (t := .int) (t' := .int) own_fd0 own_fd0
theorem own_sn7 {Z : State} {a0 : Array Value} (hw : ∀ d ∈ tables_1, d.before a0 Z = true) : Jvm.RoadKit.slotOf Z "com/example/nudo/nudo/Vehicle" "path" "[Lcom/example/nudo/nudo/CellLink;" ≠ Jvm.RoadKit.slotOf Z "com/example/nudo/nudo/Vehicle" "position" "I" := slot_ne (Or.inr (ow129 hw)) (Or.inl (ow119 hw)) (by decide +kernel) (t := (.array (.object "com/example/nudo/nudo/CellLink"))) (t' := .int) own_fd2 own_fd0
theorem own_sn8 {Z : State} {a0 : Array Value} (hw : ∀ d ∈ tables_1, d.before a0 Z = true) : Jvm.RoadKit.slotOf Z "com/example/nudo/nudo/Vehicle" "departureStep" "I" ≠ Jvm.RoadKit.slotOf Z "com/example/nudo/nudo/Vehicle" "position" "I" := slot_ne (Or.inr (ow131 hw)) (Or.inl (ow119 hw)) (by decide +kernel) (t := .int) (t' := .int) own_fd0 own_fd0
theorem own_sn9 {Z : State} {a0 : Array Value} (hw : ∀ d ∈ tables_1, d.before a0 Z = true) : Jvm.RoadKit.slotOf Z "com/example/nudo/nudo/Vehicle" "vehicleClass" "Lcom/example/nudo/nudo/VehicleClass;" ≠ Jvm.RoadKit.slotOf Z "com/example/nudo/nudo/Vehicle" "position" "I" := slot_ne (Or.inr (ow133 hw)) (Or.inl (ow119 hw)) (by decide +kernel) (t := (.object "com/example/nudo/nudo/VehicleClass")) (t' := .int) own_fd3 own_fd0
theorem own_sn10 {Z : State} {a0 : Array Value} (hw : ∀ d ∈ tables_1, d.before a0 Z = true) : Jvm.RoadKit.slotOf Z "com/example/nudo/nudo/Vehicle" "linkEntrySteps" "[I" ≠ Jvm.RoadKit.slotOf Z "com/example/nudo/nudo/Vehicle" "position" "I" := slot_ne (Or.inr (ow135 hw)) (Or.inl (ow119 hw)) (by decide +kernel) (t := (.array .int)) (t' := .int) own_fd4 own_fd0
theorem own_sn11 {Z : State} {a0 : Array Value} (hw : ∀ d ∈ tables_1, d.before a0 Z = true) : Jvm.RoadKit.slotOf Z "com/example/nudo/nudo/Vehicle" "exitStep" "I" ≠ Jvm.RoadKit.slotOf Z "com/example/nudo/nudo/Vehicle" "candidateStep" "I" := slot_ne (Or.inl (ow123 hw)) (Or.inl (ow121 hw)) (by decide +kernel) (t := .int) (t' := .int) own_fd0 own_fd0
theorem own_sn12 {Z : State} {a0 : Array Value} (hw : ∀ d ∈ tables_1, d.before a0 Z = true) : Jvm.RoadKit.slotOf Z "com/example/nudo/nudo/Vehicle" "trip" "I" ≠ Jvm.RoadKit.slotOf Z "com/example/nudo/nudo/Vehicle" "candidateStep" "I" := slot_ne (Or.inr (ow125 hw)) (Or.inl (ow121 hw)) (by decide +kernel) (t := .int) (t' := .int) own_fd0 own_fd0
theorem own_sn13 {Z : State} {a0 : Array Value} (hw : ∀ d ∈ tables_1, d.before a0 Z = true) : Jvm.RoadKit.slotOf Z "com/example/nudo/nudo/Vehicle" "rank" "I" ≠ Jvm.RoadKit.slotOf Z "com/example/nudo/nudo/Vehicle" "candidateStep" "I" := slot_ne (Or.inr (ow127 hw)) (Or.inl (ow121 hw)) (by decide +kernel) (t := .int) (t' := .int) own_fd0 own_fd0
theorem own_sn14 {Z : State} {a0 : Array Value} (hw : ∀ d ∈ tables_1, d.before a0 Z = true) : Jvm.RoadKit.slotOf Z "com/example/nudo/nudo/Vehicle" "path" "[Lcom/example/nudo/nudo/CellLink;" ≠ Jvm.RoadKit.slotOf Z "com/example/nudo/nudo/Vehicle" "candidateStep" "I" := slot_ne (Or.inr (ow129 hw)) (Or.inl (ow121 hw)) (by decide +kernel) (t := (.array (.object "com/example/nudo/nudo/CellLink"))) (t' := .int) own_fd2 own_fd0
theorem own_sn15 {Z : State} {a0 : Array Value} (hw : ∀ d ∈ tables_1, d.before a0 Z = true) : Jvm.RoadKit.slotOf Z "com/example/nudo/nudo/Vehicle" "departureStep" "I" ≠ Jvm.RoadKit.slotOf Z "com/example/nudo/nudo/Vehicle" "candidateStep" "I" := slot_ne (Or.inr (ow131 hw)) (Or.inl (ow121 hw)) (by decide +kernel) (t := .int) (t' := .int) own_fd0 own_fd0
theorem own_sn16 {Z : State} {a0 : Array Value} (hw : ∀ d ∈ tables_1, d.before a0 Z = true) : Jvm.RoadKit.slotOf Z "com/example/nudo/nudo/Vehicle" "vehicleClass" "Lcom/example/nudo/nudo/VehicleClass;" ≠ Jvm.RoadKit.slotOf Z "com/example/nudo/nudo/Vehicle" "candidateStep" "I" := slot_ne (Or.inr (ow133 hw)) (Or.inl (ow121 hw)) (by decide +kernel) (t := (.object "com/example/nudo/nudo/VehicleClass")) (t' := .int) own_fd3 own_fd0
theorem own_sn17 {Z : State} {a0 : Array Value} (hw : ∀ d ∈ tables_1, d.before a0 Z = true) : Jvm.RoadKit.slotOf Z "com/example/nudo/nudo/Vehicle" "linkEntrySteps" "[I" ≠ Jvm.RoadKit.slotOf Z "com/example/nudo/nudo/Vehicle" "candidateStep" "I" := slot_ne (Or.inr (ow135 hw)) (Or.inl (ow121 hw)) (by decide +kernel) (t := (.array .int)) (t' := .int) own_fd4 own_fd0
theorem own_sn18 {Z : State} {a0 : Array Value} (hw : ∀ d ∈ tables_1, d.before a0 Z = true) : Jvm.RoadKit.slotOf Z "com/example/nudo/nudo/Vehicle" "trip" "I" ≠ Jvm.RoadKit.slotOf Z "com/example/nudo/nudo/Vehicle" "exitStep" "I" := slot_ne (Or.inr (ow125 hw)) (Or.inl (ow123 hw)) (by decide +kernel) (t := .int) (t' := .int) own_fd0 own_fd0
theorem own_sn19 {Z : State} {a0 : Array Value} (hw : ∀ d ∈ tables_1, d.before a0 Z = true) : Jvm.RoadKit.slotOf Z "com/example/nudo/nudo/Vehicle" "rank" "I" ≠ Jvm.RoadKit.slotOf Z "com/example/nudo/nudo/Vehicle" "exitStep" "I" := slot_ne (Or.inr (ow127 hw)) (Or.inl (ow123 hw)) (by decide +kernel) (t := .int) (t' := .int) own_fd0 own_fd0
theorem own_sn20 {Z : State} {a0 : Array Value} (hw : ∀ d ∈ tables_1, d.before a0 Z = true) : Jvm.RoadKit.slotOf Z "com/example/nudo/nudo/Vehicle" "path" "[Lcom/example/nudo/nudo/CellLink;" ≠ Jvm.RoadKit.slotOf Z "com/example/nudo/nudo/Vehicle" "exitStep" "I" := slot_ne (Or.inr (ow129 hw)) (Or.inl (ow123 hw)) (by decide +kernel) (t := (.array (.object "com/example/nudo/nudo/CellLink"))) (t' := .int) own_fd2 own_fd0
theorem own_sn21 {Z : State} {a0 : Array Value} (hw : ∀ d ∈ tables_1, d.before a0 Z = true) : Jvm.RoadKit.slotOf Z "com/example/nudo/nudo/Vehicle" "departureStep" "I" ≠ Jvm.RoadKit.slotOf Z "com/example/nudo/nudo/Vehicle" "exitStep" "I" := slot_ne (Or.inr (ow131 hw)) (Or.inl (ow123 hw)) (by decide +kernel) (t := .int) (t' := .int) own_fd0 own_fd0
theorem own_sn22 {Z : State} {a0 : Array Value} (hw : ∀ d ∈ tables_1, d.before a0 Z = true) : Jvm.RoadKit.slotOf Z "com/example/nudo/nudo/Vehicle" "vehicleClass" "Lcom/example/nudo/nudo/VehicleClass;" ≠ Jvm.RoadKit.slotOf Z "com/example/nudo/nudo/Vehicle" "exitStep" "I" := slot_ne (Or.inr (ow133 hw)) (Or.inl (ow123 hw)) (by decide +kernel) (t := (.object "com/example/nudo/nudo/VehicleClass")) (t' := .int) own_fd3 own_fd0
theorem own_sn23 {Z : State} {a0 : Array Value} (hw : ∀ d ∈ tables_1, d.before a0 Z = true) : Jvm.RoadKit.slotOf Z "com/example/nudo/nudo/Vehicle" "linkEntrySteps" "[I" ≠ Jvm.RoadKit.slotOf Z "com/example/nudo/nudo/Vehicle" "exitStep" "I" := slot_ne (Or.inr (ow135 hw)) (Or.inl (ow123 hw)) (by decide +kernel) (t := (.array .int)) (t' := .int) own_fd4 own_fd0
theorem own_sn24 {Z : State} {a0 : Array Value} (hw : ∀ d ∈ tables_1, d.before a0 Z = true) : Jvm.RoadKit.slotOf Z "com/example/nudo/nudo/Vehicle" "rank" "I" ≠ Jvm.RoadKit.slotOf Z "com/example/nudo/nudo/Vehicle" "trip" "I" := slot_ne (Or.inr (ow127 hw)) (Or.inr (ow125 hw)) (by decide +kernel) (t := .int) (t' := .int) own_fd0 own_fd0
theorem own_sn25 {Z : State} {a0 : Array Value} (hw : ∀ d ∈ tables_1, d.before a0 Z = true) : Jvm.RoadKit.slotOf Z "com/example/nudo/nudo/Vehicle" "path" "[Lcom/example/nudo/nudo/CellLink;" ≠ Jvm.RoadKit.slotOf Z "com/example/nudo/nudo/Vehicle" "trip" "I" := slot_ne (Or.inr (ow129 hw)) (Or.inr (ow125 hw)) (by decide +kernel) (t := (.array (.object "com/example/nudo/nudo/CellLink"))) (t' := .int) own_fd2 own_fd0
theorem own_sn26 {Z : State} {a0 : Array Value} (hw : ∀ d ∈ tables_1, d.before a0 Z = true) : Jvm.RoadKit.slotOf Z "com/example/nudo/nudo/Vehicle" "departureStep" "I" ≠ Jvm.RoadKit.slotOf Z "com/example/nudo/nudo/Vehicle" "trip" "I" := slot_ne (Or.inr (ow131 hw)) (Or.inr (ow125 hw)) (by decide +kernel) (t := .int) (t' := .int) own_fd0 own_fd0
theorem own_sn27 {Z : State} {a0 : Array Value} (hw : ∀ d ∈ tables_1, d.before a0 Z = true) : Jvm.RoadKit.slotOf Z "com/example/nudo/nudo/Vehicle" "vehicleClass" "Lcom/example/nudo/nudo/VehicleClass;" ≠ Jvm.RoadKit.slotOf Z "com/example/nudo/nudo/Vehicle" "trip" "I" := slot_ne (Or.inr (ow133 hw)) (Or.inr (ow125 hw)) (by decide +kernel) (t := (.object "com/example/nudo/nudo/VehicleClass")) (t' := .int) own_fd3 own_fd0
theorem own_sn28 {Z : State} {a0 : Array Value} (hw : ∀ d ∈ tables_1, d.before a0 Z = true) : Jvm.RoadKit.slotOf Z "com/example/nudo/nudo/Vehicle" "linkEntrySteps" "[I" ≠ Jvm.RoadKit.slotOf Z "com/example/nudo/nudo/Vehicle" "trip" "I" := slot_ne (Or.inr (ow135 hw)) (Or.inr (ow125 hw)) (by decide +kernel) (t := (.array .int)) (t' := .int) own_fd4 own_fd0
theorem own_sn29 {Z : State} {a0 : Array Value} (hw : ∀ d ∈ tables_1, d.before a0 Z = true) : Jvm.RoadKit.slotOf Z "com/example/nudo/nudo/Vehicle" "path" "[Lcom/example/nudo/nudo/CellLink;" ≠ Jvm.RoadKit.slotOf Z "com/example/nudo/nudo/Vehicle" "rank" "I" := slot_ne (Or.inr (ow129 hw)) (Or.inr (ow127 hw)) (by decide +kernel) (t := (.array (.object "com/example/nudo/nudo/CellLink"))) (t' := .int) own_fd2 own_fd0
theorem own_sn30 {Z : State} {a0 : Array Value} (hw : ∀ d ∈ tables_1, d.before a0 Z = true) : Jvm.RoadKit.slotOf Z "com/example/nudo/nudo/Vehicle" "departureStep" "I" ≠ Jvm.RoadKit.slotOf Z "com/example/nudo/nudo/Vehicle" "rank" "I" := slot_ne (Or.inr (ow131 hw)) (Or.inr (ow127 hw)) (by decide +kernel) (t := .int) (t' := .int) own_fd0 own_fd0
theorem own_sn31 {Z : State} {a0 : Array Value} (hw : ∀ d ∈ tables_1, d.before a0 Z = true) : Jvm.RoadKit.slotOf Z "com/example/nudo/nudo/Vehicle" "vehicleClass" "Lcom/example/nudo/nudo/VehicleClass;" ≠ Jvm.RoadKit.slotOf Z "com/example/nudo/nudo/Vehicle" "rank" "I" := slot_ne (Or.inr (ow133 hw)) (Or.inr (ow127 hw)) (by decide +kernel) (t := (.object "com/example/nudo/nudo/VehicleClass")) (t' := .int) own_fd3 own_fd0
theorem own_sn32 {Z : State} {a0 : Array Value} (hw : ∀ d ∈ tables_1, d.before a0 Z = true) : Jvm.RoadKit.slotOf Z "com/example/nudo/nudo/Vehicle" "linkEntrySteps" "[I" ≠ Jvm.RoadKit.slotOf Z "com/example/nudo/nudo/Vehicle" "rank" "I" := slot_ne (Or.inr (ow135 hw)) (Or.inr (ow127 hw)) (by decide +kernel) (t := (.array .int)) (t' := .int) own_fd4 own_fd0
theorem own_sn33 {Z : State} {a0 : Array Value} (hw : ∀ d ∈ tables_1, d.before a0 Z = true) : Jvm.RoadKit.slotOf Z "com/example/nudo/nudo/Vehicle" "departureStep" "I" ≠ Jvm.RoadKit.slotOf Z "com/example/nudo/nudo/Vehicle" "path" "[Lcom/example/nudo/nudo/CellLink;" := slot_ne (Or.inr (ow131 hw)) (Or.inr (ow129 hw)) (by decide +kernel) (t := .int) (t' := (.array (.object "com/example/nudo/nudo/CellLink"))) own_fd0 own_fd2
theorem own_sn34 {Z : State} {a0 : Array Value} (hw : ∀ d ∈ tables_1, d.before a0 Z = true) : Jvm.RoadKit.slotOf Z "com/example/nudo/nudo/Vehicle" "vehicleClass" "Lcom/example/nudo/nudo/VehicleClass;" ≠ Jvm.RoadKit.slotOf Z "com/example/nudo/nudo/Vehicle" "path" "[Lcom/example/nudo/nudo/CellLink;" := slot_ne (Or.inr (ow133 hw)) (Or.inr (ow129 hw)) (by decide +kernel) (t := (.object "com/example/nudo/nudo/VehicleClass")) (t' := (.array (.object "com/example/nudo/nudo/CellLink"))) own_fd3 own_fd2
theorem own_sn35 {Z : State} {a0 : Array Value} (hw : ∀ d ∈ tables_1, d.before a0 Z = true) : Jvm.RoadKit.slotOf Z "com/example/nudo/nudo/Vehicle" "linkEntrySteps" "[I" ≠ Jvm.RoadKit.slotOf Z "com/example/nudo/nudo/Vehicle" "path" "[Lcom/example/nudo/nudo/CellLink;" := slot_ne (Or.inr (ow135 hw)) (Or.inr (ow129 hw)) (by decide +kernel) (t := (.array .int)) (t' := (.array (.object "com/example/nudo/nudo/CellLink"))) own_fd4 own_fd2
theorem own_sn36 {Z : State} {a0 : Array Value} (hw : ∀ d ∈ tables_1, d.before a0 Z = true) : Jvm.RoadKit.slotOf Z "com/example/nudo/nudo/Vehicle" "vehicleClass" "Lcom/example/nudo/nudo/VehicleClass;" ≠ Jvm.RoadKit.slotOf Z "com/example/nudo/nudo/Vehicle" "departureStep" "I" := slot_ne (Or.inr (ow133 hw)) (Or.inr (ow131 hw)) (by decide +kernel) (t := (.object "com/example/nudo/nudo/VehicleClass")) (t' := .int) own_fd3 own_fd0
theorem own_sn37 {Z : State} {a0 : Array Value} (hw : ∀ d ∈ tables_1, d.before a0 Z = true) : Jvm.RoadKit.slotOf Z "com/example/nudo/nudo/Vehicle" "linkEntrySteps" "[I" ≠ Jvm.RoadKit.slotOf Z "com/example/nudo/nudo/Vehicle" "departureStep" "I" := slot_ne (Or.inr (ow135 hw)) (Or.inr (ow131 hw)) (by decide +kernel) (t := (.array .int)) (t' := .int) own_fd4 own_fd0
theorem own_sn38 {Z : State} {a0 : Array Value} (hw : ∀ d ∈ tables_1, d.before a0 Z = true) : Jvm.RoadKit.slotOf Z "com/example/nudo/nudo/Vehicle" "linkEntrySteps" "[I" ≠ Jvm.RoadKit.slotOf Z "com/example/nudo/nudo/Vehicle" "vehicleClass" "Lcom/example/nudo/nudo/VehicleClass;" := slot_ne (Or.inr (ow135 hw)) (Or.inr (ow133 hw)) (by decide +kernel) (t := (.array .int)) (t' := (.object "com/example/nudo/nudo/VehicleClass")) own_fd4 own_fd3
theorem own_sn39 {Z : State} {a0 : Array Value} (hw : ∀ d ∈ tables_1, d.before a0 Z = true) : Jvm.RoadKit.slotOf Z "java/util/ArrayList$Itr" "cursor" "I" ≠ Jvm.RoadKit.slotOf Z "java/util/ArrayList$Itr" "this$0" "Ljava/util/ArrayList;" := slot_ne (Or.inl (ow92 hw)) (Or.inr (ow74 hw)) (by decide +kernel) (t := .int) (t' := (.object "java/util/ArrayList")) own_fd0 own_fd5
theorem own_sn40 {Z : State} {a0 : Array Value} (hw : ∀ d ∈ tables_1, d.before a0 Z = true) : Jvm.RoadKit.slotOf Z "java/util/ArrayList$Itr" "lastRet" "I" ≠ Jvm.RoadKit.slotOf Z "java/util/ArrayList$Itr" "this$0" "Ljava/util/ArrayList;" := slot_ne (Or.inl (ow77 hw)) (Or.inr (ow74 hw)) (by decide +kernel) (t := .int) (t' := (.object "java/util/ArrayList")) own_fd0 own_fd5
theorem own_sn41 {Z : State} {a0 : Array Value} (hw : ∀ d ∈ tables_1, d.before a0 Z = true) : Jvm.RoadKit.slotOf Z "java/util/ArrayList$Itr" "expectedModCount" "I" ≠ Jvm.RoadKit.slotOf Z "java/util/ArrayList$Itr" "this$0" "Ljava/util/ArrayList;" := slot_ne (Or.inl (ow81 hw)) (Or.inr (ow74 hw)) (by decide +kernel) (t := .int) (t' := (.object "java/util/ArrayList")) own_fd0 own_fd5
theorem own_sn42 {Z : State} {a0 : Array Value} (hw : ∀ d ∈ tables_1, d.before a0 Z = true) : Jvm.RoadKit.slotOf Z "java/util/ArrayList$Itr" "cursor" "I" ≠ Jvm.RoadKit.slotOf Z "java/util/ArrayList$Itr" "lastRet" "I" := slot_ne (Or.inl (ow92 hw)) (Or.inl (ow77 hw)) (by decide +kernel) (t := .int) (t' := .int) own_fd0 own_fd0
theorem own_sn43 {Z : State} {a0 : Array Value} (hw : ∀ d ∈ tables_1, d.before a0 Z = true) : Jvm.RoadKit.slotOf Z "java/util/ArrayList$Itr" "expectedModCount" "I" ≠ Jvm.RoadKit.slotOf Z "java/util/ArrayList$Itr" "lastRet" "I" := slot_ne (Or.inl (ow81 hw)) (Or.inl (ow77 hw)) (by decide +kernel) (t := .int) (t' := .int) own_fd0 own_fd0
theorem own_sn44 {Z : State} {a0 : Array Value} (hw : ∀ d ∈ tables_1, d.before a0 Z = true) : Jvm.RoadKit.slotOf Z "java/util/ArrayList$Itr" "cursor" "I" ≠ Jvm.RoadKit.slotOf Z "java/util/ArrayList$Itr" "expectedModCount" "I" := slot_ne (Or.inl (ow92 hw)) (Or.inl (ow81 hw)) (by decide +kernel) (t := .int) (t' := .int) own_fd0 own_fd0
theorem own_sn45 {Z : State} {a0 : Array Value} (hw : ∀ d ∈ tables_1, d.before a0 Z = true) : Jvm.RoadKit.slotOf Z "com/example/nudo/nudo/LoadingResult" "departureSteps" "[I" ≠ Jvm.RoadKit.slotOf Z "com/example/nudo/nudo/LoadingResult" "timeStep" "I" := slot_ne (Or.inr (ow49 hw)) (Or.inr (ow35 hw)) (by decide +kernel) (t := (.array .int)) (t' := .int) own_fd4 own_fd0
theorem own_sn46 {Z : State} {a0 : Array Value} (hw : ∀ d ∈ tables_1, d.before a0 Z = true) : Jvm.RoadKit.slotOf Z "com/example/nudo/nudo/LoadingResult" "exitSteps" "[I" ≠ Jvm.RoadKit.slotOf Z "com/example/nudo/nudo/LoadingResult" "timeStep" "I" := slot_ne (Or.inr (ow51 hw)) (Or.inr (ow35 hw)) (by decide +kernel) (t := (.array .int)) (t' := .int) own_fd4 own_fd0
theorem own_sn47 {Z : State} {a0 : Array Value} (hw : ∀ d ∈ tables_1, d.before a0 Z = true) : Jvm.RoadKit.slotOf Z "com/example/nudo/nudo/LoadingResult" "freeFlowSteps" "[I" ≠ Jvm.RoadKit.slotOf Z "com/example/nudo/nudo/LoadingResult" "timeStep" "I" := slot_ne (Or.inr (ow53 hw)) (Or.inr (ow35 hw)) (by decide +kernel) (t := (.array .int)) (t' := .int) own_fd4 own_fd0
theorem own_sn48 {Z : State} {a0 : Array Value} (hw : ∀ d ∈ tables_1, d.before a0 Z = true) : Jvm.RoadKit.slotOf Z "com/example/nudo/nudo/LoadingResult" "linkEntrySteps" "[[I" ≠ Jvm.RoadKit.slotOf Z "com/example/nudo/nudo/LoadingResult" "timeStep" "I" := slot_ne (Or.inr (ow57 hw)) (Or.inr (ow35 hw)) (by decide +kernel) (t := (.array (.array .int))) (t' := .int) own_fd6 own_fd0
theorem own_sn49 {Z : State} {a0 : Array Value} (hw : ∀ d ∈ tables_1, d.before a0 Z = true) : Jvm.RoadKit.slotOf Z "com/example/nudo/nudo/LoadingResult" "endStep" "I" ≠ Jvm.RoadKit.slotOf Z "com/example/nudo/nudo/LoadingResult" "timeStep" "I" := slot_ne (Or.inr (ow95 hw)) (Or.inr (ow35 hw)) (by decide +kernel) (t := .int) (t' := .int) own_fd0 own_fd0
theorem own_sn50 {Z : State} {a0 : Array Value} (hw : ∀ d ∈ tables_1, d.before a0 Z = true) : Jvm.RoadKit.slotOf Z "com/example/nudo/nudo/LoadingResult" "vehiclesWaiting" "I" ≠ Jvm.RoadKit.slotOf Z "com/example/nudo/nudo/LoadingResult" "timeStep" "I" := slot_ne (Or.inr (ow97 hw)) (Or.inr (ow35 hw)) (by decide +kernel) (t := .int) (t' := .int) own_fd0 own_fd0
theorem own_sn51 {Z : State} {a0 : Array Value} (hw : ∀ d ∈ tables_1, d.before a0 Z = true) : Jvm.RoadKit.slotOf Z "com/example/nudo/nudo/LoadingResult" "vehiclesInNetwork" "I" ≠ Jvm.RoadKit.slotOf Z "com/example/nudo/nudo/LoadingResult" "timeStep" "I" := slot_ne (Or.inr (ow99 hw)) (Or.inr (ow35 hw)) (by decide +kernel) (t := .int) (t' := .int) own_fd0 own_fd0
theorem own_sn52 {Z : State} {a0 : Array Value} (hw : ∀ d ∈ tables_1, d.before a0 Z = true) : Jvm.RoadKit.slotOf Z "com/example/nudo/nudo/LoadingResult" "exitSteps" "[I" ≠ Jvm.RoadKit.slotOf Z "com/example/nudo/nudo/LoadingResult" "departureSteps" "[I" := slot_ne (Or.inr (ow51 hw)) (Or.inr (ow49 hw)) (by decide +kernel) (t := (.array .int)) (t' := (.array .int)) own_fd4 own_fd4
theorem own_sn53 {Z : State} {a0 : Array Value} (hw : ∀ d ∈ tables_1, d.before a0 Z = true) : Jvm.RoadKit.slotOf Z "com/example/nudo/nudo/LoadingResult" "freeFlowSteps" "[I" ≠ Jvm.RoadKit.slotOf Z "com/example/nudo/nudo/LoadingResult" "departureSteps" "[I" := slot_ne (Or.inr (ow53 hw)) (Or.inr (ow49 hw)) (by decide +kernel) (t := (.array .int)) (t' := (.array .int)) own_fd4 own_fd4
theorem own_sn54 {Z : State} {a0 : Array Value} (hw : ∀ d ∈ tables_1, d.before a0 Z = true) : Jvm.RoadKit.slotOf Z "com/example/nudo/nudo/LoadingResult" "linkEntrySteps" "[[I" ≠ Jvm.RoadKit.slotOf Z "com/example/nudo/nudo/LoadingResult" "departureSteps" "[I" := slot_ne (Or.inr (ow57 hw)) (Or.inr (ow49 hw)) (by decide +kernel) (t := (.array (.array .int))) (t' := (.array .int)) own_fd6 own_fd4
theorem own_sn55 {Z : State} {a0 : Array Value} (hw : ∀ d ∈ tables_1, d.before a0 Z = true) : Jvm.RoadKit.slotOf Z "com/example/nudo/nudo/LoadingResult" "endStep" "I" ≠ Jvm.RoadKit.slotOf Z "com/example/nudo/nudo/LoadingResult" "departureSteps" "[I" := slot_ne (Or.inr (ow95 hw)) (Or.inr (ow49 hw)) (by decide +kernel) (t := .int) (t' := (.array .int)) own_fd0 own_fd4
theorem own_sn56 {Z : State} {a0 : Array Value} (hw : ∀ d ∈ tables_1, d.before a0 Z = true) : Jvm.RoadKit.slotOf Z "com/example/nudo/nudo/LoadingResult" "vehiclesWaiting" "I" ≠ Jvm.RoadKit.slotOf Z "com/example/nudo/nudo/LoadingResult" "departureSteps" "[I" := slot_ne (Or.inr (ow97 hw)) (Or.inr (ow49 hw)) (by decide +kernel) (t := .int) (t' := (.array .int)) own_fd0 own_fd4
theorem own_sn57 {Z : State} {a0 : Array Value} (hw : ∀ d ∈ tables_1, d.before a0 Z = true) : Jvm.RoadKit.slotOf Z "com/example/nudo/nudo/LoadingResult" "vehiclesInNetwork" "I" ≠ Jvm.RoadKit.slotOf Z "com/example/nudo/nudo/LoadingResult" "departureSteps" "[I" := slot_ne (Or.inr (ow99 hw)) (Or.inr (ow49 hw)) (by decide +kernel) (t := .int) (t' := (.array .int)) own_fd0 own_fd4
theorem own_sn58 {Z : State} {a0 : Array Value} (hw : ∀ d ∈ tables_1, d.before a0 Z = true) : Jvm.RoadKit.slotOf Z "com/example/nudo/nudo/LoadingResult" "freeFlowSteps" "[I" ≠ Jvm.RoadKit.slotOf Z "com/example/nudo/nudo/LoadingResult" "exitSteps" "[I" := slot_ne (Or.inr (ow53 hw)) (Or.inr (ow51 hw)) (by decide +kernel) (t := (.array .int)) (t' := (.array .int)) own_fd4 own_fd4
theorem own_sn59 {Z : State} {a0 : Array Value} (hw : ∀ d ∈ tables_1, d.before a0 Z = true) : Jvm.RoadKit.slotOf Z "com/example/nudo/nudo/LoadingResult" "linkEntrySteps" "[[I" ≠ Jvm.RoadKit.slotOf Z "com/example/nudo/nudo/LoadingResult" "exitSteps" "[I" := slot_ne (Or.inr (ow57 hw)) (Or.inr (ow51 hw)) (by decide +kernel) (t := (.array (.array .int))) (t' := (.array .int)) own_fd6 own_fd4
theorem own_sn60 {Z : State} {a0 : Array Value} (hw : ∀ d ∈ tables_1, d.before a0 Z = true) : Jvm.RoadKit.slotOf Z "com/example/nudo/nudo/LoadingResult" "endStep" "I" ≠ Jvm.RoadKit.slotOf Z "com/example/nudo/nudo/LoadingResult" "exitSteps" "[I" := slot_ne (Or.inr (ow95 hw)) (Or.inr (ow51 hw)) (by decide +kernel) (t := .int) (t' := (.array .int)) own_fd0 own_fd4
theorem own_sn61 {Z : State} {a0 : Array Value} (hw : ∀ d ∈ tables_1, d.before a0 Z = true) : Jvm.RoadKit.slotOf Z "com/example/nudo/nudo/LoadingResult" "vehiclesWaiting" "I" ≠ Jvm.RoadKit.slotOf Z "com/example/nudo/nudo/LoadingResult" "exitSteps" "[I" := slot_ne (Or.inr (ow97 hw)) (Or.inr (ow51 hw)) (by decide +kernel) (t := .int) (t' := (.array .int)) own_fd0 own_fd4
theorem own_sn62 {Z : State} {a0 : Array Value} (hw : ∀ d ∈ tables_1, d.before a0 Z = true) : Jvm.RoadKit.slotOf Z "com/example/nudo/nudo/LoadingResult" "vehiclesInNetwork" "I" ≠ Jvm.RoadKit.slotOf Z "com/example/nudo/nudo/LoadingResult" "exitSteps" "[I" := slot_ne (Or.inr (ow99 hw)) (Or.inr (ow51 hw)) (by decide +kernel) (t := .int) (t' := (.array .int)) own_fd0 own_fd4
theorem own_sn63 {Z : State} {a0 : Array Value} (hw : ∀ d ∈ tables_1, d.before a0 Z = true) : Jvm.RoadKit.slotOf Z "com/example/nudo/nudo/LoadingResult" "linkEntrySteps" "[[I" ≠ Jvm.RoadKit.slotOf Z "com/example/nudo/nudo/LoadingResult" "freeFlowSteps" "[I" := slot_ne (Or.inr (ow57 hw)) (Or.inr (ow53 hw)) (by decide +kernel) (t := (.array (.array .int))) (t' := (.array .int)) own_fd6 own_fd4
theorem own_sn64 {Z : State} {a0 : Array Value} (hw : ∀ d ∈ tables_1, d.before a0 Z = true) : Jvm.RoadKit.slotOf Z "com/example/nudo/nudo/LoadingResult" "endStep" "I" ≠ Jvm.RoadKit.slotOf Z "com/example/nudo/nudo/LoadingResult" "freeFlowSteps" "[I" := slot_ne (Or.inr (ow95 hw)) (Or.inr (ow53 hw)) (by decide +kernel) (t := .int) (t' := (.array .int)) own_fd0 own_fd4
theorem own_sn65 {Z : State} {a0 : Array Value} (hw : ∀ d ∈ tables_1, d.before a0 Z = true) : Jvm.RoadKit.slotOf Z "com/example/nudo/nudo/LoadingResult" "vehiclesWaiting" "I" ≠ Jvm.RoadKit.slotOf Z "com/example/nudo/nudo/LoadingResult" "freeFlowSteps" "[I" := slot_ne (Or.inr (ow97 hw)) (Or.inr (ow53 hw)) (by decide +kernel) (t := .int) (t' := (.array .int)) own_fd0 own_fd4
theorem own_sn66 {Z : State} {a0 : Array Value} (hw : ∀ d ∈ tables_1, d.before a0 Z = true) : Jvm.RoadKit.slotOf Z "com/example/nudo/nudo/LoadingResult" "vehiclesInNetwork" "I" ≠ Jvm.RoadKit.slotOf Z "com/example/nudo/nudo/LoadingResult" "freeFlowSteps" "[I" := slot_ne (Or.inr (ow99 hw)) (Or.inr (ow53 hw)) (by decide +kernel) (t := .int) (t' := (.array .int)) own_fd0 own_fd4
theorem own_sn67 {Z : State} {a0 : Array Value} (hw : ∀ d ∈ tables_1, d.before a0 Z = true) : Jvm.RoadKit.slotOf Z "com/example/nudo/nudo/LoadingResult" "endStep" "I" ≠ Jvm.RoadKit.slotOf Z "com/example/nudo/nudo/LoadingResult" "linkEntrySteps" "[[I" := slot_ne (Or.inr (ow95 hw)) (Or.inr (ow57 hw)) (by decide +kernel) (t := .int) (t' := (.array (.array .int))) own_fd0 own_fd6
theorem own_sn68 {Z : State} {a0 : Array Value} (hw : ∀ d ∈ tables_1, d.before a0 Z = true) : Jvm.RoadKit.slotOf Z "com/example/nudo/nudo/LoadingResult" "vehiclesWaiting" "I" ≠ Jvm.RoadKit.slotOf Z "com/example/nudo/nudo/LoadingResult" "linkEntrySteps" "[[I" := slot_ne (Or.inr (ow97 hw)) (Or.inr (ow57 hw)) (by decide +kernel) (t := .int) (t' := (.array (.array .int))) own_fd0 own_fd6
theorem own_sn69 {Z : State} {a0 : Array Value} (hw : ∀ d ∈ tables_1, d.before a0 Z = true) : Jvm.RoadKit.slotOf Z "com/example/nudo/nudo/LoadingResult" "vehiclesInNetwork" "I" ≠ Jvm.RoadKit.slotOf Z "com/example/nudo/nudo/LoadingResult" "linkEntrySteps" "[[I" := slot_ne (Or.inr (ow99 hw)) (Or.inr (ow57 hw)) (by decide +kernel) (t := .int) (t' := (.array (.array .int))) own_fd0 own_fd6
theorem own_sn70 {Z : State} {a0 : Array Value} (hw : ∀ d ∈ tables_1, d.before a0 Z = true) : Jvm.RoadKit.slotOf Z "com/example/nudo/nudo/LoadingResult" "vehiclesWaiting" "I" ≠ Jvm.RoadKit.slotOf Z "com/example/nudo/nudo/LoadingResult" "endStep" "I" := slot_ne (Or.inr (ow97 hw)) (Or.inr (ow95 hw)) (by decide +kernel) (t := .int) (t' := .int) own_fd0 own_fd0
theorem own_sn71 {Z : State} {a0 : Array Value} (hw : ∀ d ∈ tables_1, d.before a0 Z = true) : Jvm.RoadKit.slotOf Z "com/example/nudo/nudo/LoadingResult" "vehiclesInNetwork" "I" ≠ Jvm.RoadKit.slotOf Z "com/example/nudo/nudo/LoadingResult" "endStep" "I" := slot_ne (Or.inr (ow99 hw)) (Or.inr (ow95 hw)) (by decide +kernel) (t := .int) (t' := .int) own_fd0 own_fd0
theorem own_sn72 {Z : State} {a0 : Array Value} (hw : ∀ d ∈ tables_1, d.before a0 Z = true) : Jvm.RoadKit.slotOf Z "com/example/nudo/nudo/LoadingResult" "vehiclesInNetwork" "I" ≠ Jvm.RoadKit.slotOf Z "com/example/nudo/nudo/LoadingResult" "vehiclesWaiting" "I" := slot_ne (Or.inr (ow99 hw)) (Or.inr (ow97 hw)) (by decide +kernel) (t := .int) (t' := .int) own_fd0 own_fd0
theorem own_pd_0 : parseMethodDescriptor "()V" = some ⟨[], none⟩ := by decide +kernel
theorem own_pd_1 : parseMethodDescriptor "(II)I" = some ⟨[.int, .int], some .int⟩ := by decide +kernel
theorem own_pd_2 : parseMethodDescriptor "(I)[Ljava/lang/Object;" = some ⟨[.int], some (.array (.object "java/lang/Object"))⟩ := by decide +kernel
theorem own_pd_3 : parseMethodDescriptor "()[Ljava/lang/Object;" = some ⟨[], some (.array (.object "java/lang/Object"))⟩ := by decide +kernel
theorem own_pd_4 : parseMethodDescriptor "(Ljava/lang/Object;[Ljava/lang/Object;I)V" = some ⟨[(.object "java/lang/Object"), (.array (.object "java/lang/Object")), .int], none⟩ := by decide +kernel
theorem own_pd_5 : parseMethodDescriptor "([II)V" = some ⟨[(.array .int), .int], none⟩ := by decide +kernel
theorem own_pd_6 : parseMethodDescriptor "(II[Lcom/example/nudo/nudo/CellLink;ILcom/example/nudo/nudo/VehicleClass;)V" = some ⟨[.int, .int, (.array (.object "com/example/nudo/nudo/CellLink")), .int, (.object "com/example/nudo/nudo/VehicleClass")], none⟩ := by decide +kernel
theorem own_pd_7 : parseMethodDescriptor "(I)V" = some ⟨[.int], none⟩ := by decide +kernel
theorem own_pd_8 : parseMethodDescriptor "(Ljava/util/ArrayList;)V" = some ⟨[(.object "java/util/ArrayList")], none⟩ := by decide +kernel
theorem own_pd_9 : parseMethodDescriptor "()I" = some ⟨[], some .int⟩ := by decide +kernel
theorem own_pd_10 : parseMethodDescriptor "()Ljava/util/Iterator;" = some ⟨[], some (.object "java/util/Iterator")⟩ := by decide +kernel
theorem own_pd_11 : parseMethodDescriptor "()Z" = some ⟨[], some .boolean⟩ := by decide +kernel
theorem own_pd_12 : parseMethodDescriptor "()Ljava/lang/Object;" = some ⟨[], some (.object "java/lang/Object")⟩ := by decide +kernel
theorem own_pd_13 : parseMethodDescriptor "(ILjava/util/List;III)V" = some ⟨[.int, (.object "java/util/List"), .int, .int, .int], none⟩ := by decide +kernel
theorem own_pd_14 : parseMethodDescriptor "(I)Z" = some ⟨[.int], some .boolean⟩ := by decide +kernel
theorem own_pd_15 : parseMethodDescriptor "(IIII)Lcom/example/nudo/nudo/Vehicle;" = some ⟨[.int, .int, .int, .int], some (.object "com/example/nudo/nudo/Vehicle")⟩ := by decide +kernel
theorem own_pd_16 : parseMethodDescriptor "(Ljava/lang/Object;)Z" = some ⟨[(.object "java/lang/Object")], some .boolean⟩ := by decide +kernel
theorem own_pd_17 : parseMethodDescriptor "(Z)I" = some ⟨[.boolean], some .int⟩ := by decide +kernel
theorem own_pn_0 : plainName "java/util/AbstractCollection" = true := by first | (simp [plainName, overriddenIn]; done) | decide +kernel
theorem own_pn_1 : plainName "java/util/AbstractList" = true := by first | (simp [plainName, overriddenIn]; done) | decide +kernel
theorem own_pn_2 : plainName "java/util/ArrayList" = true := by first | (simp [plainName, overriddenIn]; done) | decide +kernel
theorem own_pn_3 : plainName "java/util/Arrays" = true := by first | (simp [plainName, overriddenIn]; done) | decide +kernel
theorem own_pn_4 : plainName "com/example/nudo/nudo/Vehicle" = true := by first | (simp [plainName, overriddenIn]; done) | decide +kernel
theorem own_pn_5 : plainName "com/example/nudo/nudo/LoadingResultVehiclesExitedPinLaw" = true := by first | (simp [plainName, overriddenIn]; done) | decide +kernel
theorem own_pn_6 : plainName "java/util/ArrayList$Itr" = true := by first | (simp [plainName, overriddenIn]; done) | decide +kernel
theorem own_pn_7 : plainName "com/example/nudo/nudo/LoadingResult" = true := by first | (simp [plainName, overriddenIn]; done) | decide +kernel
theorem own_lenOf {args : Array Value} {s : State} {t : Term} {a : Addr} {c : Cell} {k : Int32} (et : t.eval args s none [] s = some (.ref a)) (A : s.arrayAt? a = some c) (h : (Jvm.Cond.eq (Term.length t) (Term.int k)).value args s none s [] = some true) : c.slots.size < 2 ^ 31 ∧ c.slots.size.toInt32 = k := by
  by_cases q : c.slots.size < 2 ^ 31
  · refine ⟨q, ?_⟩
    have e := len_f (o := none) (first := s) (idx := []) et A q
    exact gotT (Cond.eq_ints e (Term.int_eval k)) h
  · exfalso
    simp [Cond.value, Term.eval, et, A, q] at h
theorem own_subIdx {args : Array Value} {s : State} {j : Int32} (hj : ¬ j < 0) : (Term.sub (.index 0) (.int 128)).eval args s none [j.toNatClampNeg] s = some (.int (j - 128)) := by
  simp [Term.eval, (back32 hj).1]
def own_V3 (x : Int32) : Prop := x = (0 : Int32) ∨ x = (1 : Int32) ∨ x = (2 : Int32)
theorem own_v3 {x : Int32} (h : own_V3 x) (h0 : ¬ x = (0 : Int32)) (h1 : ¬ x = (1 : Int32)) : x = (2 : Int32) := h.elim (fun q => absurd q h0) fun q => q.elim (fun q => absurd q h1) id
theorem own_V3m (x : Int32) : own_V3 ((x &&& (3 : Int32)) % (3 : Int32)) := by
  have a1 := c_mask x 3 2 (by decide) (by decide)
  have a2 := c_irem (x &&& 3) 3 3 (by decide)
  have a5 : (0 : Int32).toInt = 0 := by decide
  have a6 : (1 : Int32).toInt = 1 := by decide
  have a7 : (2 : Int32).toInt = 2 := by decide
  have h : ((x &&& (3 : Int32)) % (3 : Int32)).toInt = 0 ∨ ((x &&& (3 : Int32)) % (3 : Int32)).toInt = 1 ∨ ((x &&& (3 : Int32)) % (3 : Int32)).toInt = 2 := by omega
  rcases h with h | h | h
  · exact Or.inl (Int32.toInt_inj.mp (h.trans a5.symm))
  · exact Or.inr (Or.inl (Int32.toInt_inj.mp (h.trans a6.symm)))
  · exact Or.inr (Or.inr (Int32.toInt_inj.mp (h.trans a7.symm)))
theorem own_ltk {j k x : Int32} (h : ¬ j < x) (hjk : j.toInt < k.toInt) : ¬ k < x := by
  have a2 := mt Int32.lt_iff_toInt_lt.mpr h
  rw [Int32.lt_iff_toInt_lt]
  omega
def own_R (xs : List Int32) (a b c : Int32) : Prop := a.toInt = ((xs.filter (fun x => decide (¬ x < 0))).length : Int) ∧ 0 ≤ b.toInt ∧ 0 ≤ c.toInt ∧ a.toInt + b.toInt + c.toInt = (xs.length : Int)
theorem own_R0 : own_R [] 0 0 0 := ⟨rfl, by decide, by decide, rfl⟩
theorem own_add1 {a : Int32} {k : Int} (h0 : 0 ≤ a.toInt) (h1 : a.toInt ≤ 100) (h : a.toInt = k) : (a + 1).toInt = k + 1 := by
  have a1 := c_iadd a 1
  have a2 : (1 : Int32).toInt = 1 := by decide
  have a3 := rng32 (a + 1)
  omega
theorem own_add0 (a : Int32) : (a + 0).toInt = a.toInt := by
  have a1 := c_iadd a 0
  have a2 : (0 : Int32).toInt = 0 := by decide
  have a3 := rng32 (a + 0)
  have a4 := rng32 a
  omega
theorem own_RA {xs : List Int32} {a b c x : Int32} (h : own_R xs a b c) (hl : xs.length ≤ 3) (hx : ¬ x < 0) : own_R (xs ++ [x]) (a + 1) (b + 0) (c + 0) := by
  obtain ⟨h1, h2, h3, h4⟩ := h
  have q1 := own_add1 (a := a) (by omega) (by omega) rfl
  have q2 := own_add0 b
  have q3 := own_add0 c
  refine ⟨?_, by omega, by omega, ?_⟩
  · rw [q1, h1, List.filter_append, List.filter_cons_of_pos (by simpa using hx)]; simp
  · rw [q1, q2, q3, List.length_append]; simp; omega
theorem own_RB {xs : List Int32} {a b c x : Int32} (h : own_R xs a b c) (hl : xs.length ≤ 3) (hx : x < 0) : own_R (xs ++ [x]) (a + 0) (b + 1) (c + 0) := by
  obtain ⟨h1, h2, h3, h4⟩ := h
  have q1 := own_add1 (a := b) (by omega) (by omega) rfl
  have q2 := own_add0 a
  have q3 := own_add0 c
  refine ⟨?_, by omega, by omega, ?_⟩
  · rw [q2, h1, List.filter_append, List.filter_cons_of_neg (by simpa using hx)]; simp
  · rw [q1, q2, q3, List.length_append]; simp; omega
theorem own_RC {xs : List Int32} {a b c x : Int32} (h : own_R xs a b c) (hl : xs.length ≤ 3) (hx : x < 0) : own_R (xs ++ [x]) (a + 0) (b + 0) (c + 1) := by
  obtain ⟨h1, h2, h3, h4⟩ := h
  have q1 := own_add1 (a := c) (by omega) (by omega) rfl
  have q2 := own_add0 a
  have q3 := own_add0 b
  refine ⟨?_, by omega, by omega, ?_⟩
  · rw [q2, h1, List.filter_append, List.filter_cons_of_neg (by simpa using hx)]; simp
  · rw [q1, q2, q3, List.length_append]; simp; omega
theorem own_Rv {xs : List Int32} {a b c k : Int32} (h : own_R xs a b c) (hk : k.toInt = (xs.length : Int)) : (k - b) - c = a := by
  obtain ⟨h1, h2, h3, h4⟩ := h
  have q1 := c_isub k b
  have q2 := c_isub (k - b) c
  have q3 := rng32 ((k - b) - c)
  have q4 := rng32 a
  apply Int32.toInt_inj.mp
  omega
theorem own_Rs {xs : List Int32} {a b c k : Int32} (h : own_R xs a b c) (hk : ((xs.filter (fun x => decide (¬ x < 0))).length : Int) = k.toInt) : a = k := Int32.toInt_inj.mp (h.1.trans hk)
theorem own_nn (x : Int32) : ¬ (x &&& (2147483647 : Int32)) < (0 : Int32) := by
  have a1 := c_and x 2147483647 (by decide)
  have a3 : (0 : Int32).toInt = 0 := by decide
  rw [Int32.lt_iff_toInt_lt]
  omega
theorem d3_0 : decode jdk_22_method_1_code 0 = .ok (.aload_n 0, 1) := by decide +kernel
theorem d3_1 : decode jdk_22_method_1_code 1 = .ok (.invokespecial 1, 3) := by decide +kernel
theorem d3_4 : decode jdk_22_method_1_code 4 = .ok (.return_, 1) := by decide +kernel
def Q_alcinit (Z : State) (wd : Addr) (kd : ClassId) (a1 : Addr) (h0 : Heap) (v : Option Value) (h : Heap) (L : List Loc) : Prop := (v = none ∧ Fr Z.heap.size L ∧ h = h0)
theorem ef_alcinit (m : MethodId) (x0 : Addr) : entryFrame m #[(.ref x0)] 1 = mkF m 0 #[rv x0] [] := by first | (simp [entryFrame, mkF, argsToLocals, Value.category]; done) | rfl
set_option maxRecDepth 65536 in
set_option maxHeartbeats 40000000 in
theorem rm_alcinit (l : Launch) (Z : State) (a0 : Array Value) (hw : ∀ d ∈ tables_1, d.before a0 Z = true) {wd : Addr} {kd : ClassId} (oDE : Sta Z Z.heap "java/util/ArrayList" "DEFAULTCAPACITY_EMPTY_ELEMENTDATA" "[Ljava/lang/Object;" (.ref wd)) (oDV : Arv Z Z.heap wd kd (.object "java/lang/Object") (0 : Int32) [] .null) (ws : List Jvm.Cond) (a1 : Addr) (h0 : Heap) (O0 : Ext Z.heap h0) :
    own_MF l Z h0 (⟨"java/util/AbstractCollection", "<init>", "()V"⟩ : MethodName) jdk_22_method_1_code 1 none ({ frames := 1, cells := 0, slots := 0, locals := 12 } : Room) #[(.ref a1)] (Q_alcinit Z wd kd a1 h0) ws := by
  refine own_met (Q := (Q_alcinit Z wd kd a1 h0)) _ _ (plainFor_of_name own_pn_0) ?_
  intro p e s m below meth c T X0 hx hby hml hret hlk hZ hown hnm e0
  replace hown : s.vm.findClass "java/util/AbstractCollection" = some m.cls := hown
  replace hnm : meth.name = "<init>" := hnm
  have hml : c.maxLocals = 1 := hml
  have N0 := Fr.nil Z.heap.size
  have K0 := Keep.refl h0 []
  refine own_go (fun _ k => castTop (ef_alcinit m a1) k) ?_
  show own_Go p e below s _ _ _ (T.setTop (mkF m 0 #[rv a1] []))
  refine own_go (fun _ k => XS.aloadN X0.here hx rfl (hb hby d3_0) rfl rfl k) ?_
  obtain ⟨T1, X1, e1, st1⟩ := initO X0 hx hZ hown (ow19 hw) (ow20 hw) (ow21 hw) e0 (g := (mkF m 1 #[rv a1] [(.ref a1)])) rfl (by rw [hml]; rfl) rfl (hb hby d3_1) (by decide) (W := 0) (by show 2 * 0 + _ ≤ _; exact Nat.le_of_eq rfl) (by decide)
  refine own_go st1 ?_
  clear st1 X0 e0
  show own_Go p e below s _ _ _ (T1.setTop (mkF m 4 #[rv a1] []))
  refine own_retV X1 hx hlk e1 hret (hb hby d3_4) (by show _ ≤ 0; omega) (by show _ ≤ 0; omega) ?_
  exact ⟨rfl, N0, rfl⟩
theorem d2_0 : decode jdk_39_method_1_code 0 = .ok (.aload_n 0, 1) := by decide +kernel
theorem d2_1 : decode jdk_39_method_1_code 1 = .ok (.invokespecial 1, 3) := by decide +kernel
theorem d2_4 : decode jdk_39_method_1_code 4 = .ok (.aload_n 0, 1) := by decide +kernel
theorem d2_5 : decode jdk_39_method_1_code 5 = .ok (.iconst 0, 1) := by decide +kernel
theorem d2_6 : decode jdk_39_method_1_code 6 = .ok (.putfield 7, 3) := by decide +kernel
theorem d2_9 : decode jdk_39_method_1_code 9 = .ok (.return_, 1) := by decide +kernel
def Q_aliinit (Z : State) (wd : Addr) (kd : ClassId) (a1 : Addr) (h0 : Heap) (v : Option Value) (h : Heap) (L : List Loc) : Prop := (v = none ∧ Fr Z.heap.size L ∧ Keep h0 h [a1] ∧ Exa Z h a1 "java/util/ArrayList" ∧ Fld Z h a1 "java/util/ArrayList" "size" "I" (.int (0 : Int32)) ∧ Fld Z h a1 "java/util/ArrayList" "elementData" "[Ljava/lang/Object;" .null ∧ Fld Z h a1 "java/util/AbstractList" "modCount" "I" (.int (0 : Int32)))
theorem ef_aliinit (m : MethodId) (x0 : Addr) : entryFrame m #[(.ref x0)] 1 = mkF m 0 #[rv x0] [] := by first | (simp [entryFrame, mkF, argsToLocals, Value.category]; done) | rfl
set_option maxRecDepth 65536 in
set_option maxHeartbeats 40000000 in
theorem rm_aliinit (l : Launch) (Z : State) (a0 : Array Value) (hw : ∀ d ∈ tables_1, d.before a0 Z = true) {wd : Addr} {kd : ClassId} (oDE : Sta Z Z.heap "java/util/ArrayList" "DEFAULTCAPACITY_EMPTY_ELEMENTDATA" "[Ljava/lang/Object;" (.ref wd)) (oDV : Arv Z Z.heap wd kd (.object "java/lang/Object") (0 : Int32) [] .null) (ws : List Jvm.Cond) (a1 : Addr) (h0 : Heap) (O0 : Ext Z.heap h0) (fp0 : Exa Z h0 a1 "java/util/ArrayList") (fp1 : Fld Z h0 a1 "java/util/ArrayList" "size" "I" (.int (0 : Int32))) (fp2 : Fld Z h0 a1 "java/util/ArrayList" "elementData" "[Ljava/lang/Object;" .null) (fp3 : Fld Z h0 a1 "java/util/AbstractList" "modCount" "I" (.int (0 : Int32))) (big_a1 : Z.heap.size ≤ a1) :
    own_MF l Z h0 (⟨"java/util/AbstractList", "<init>", "()V"⟩ : MethodName) jdk_39_method_1_code 1 none ({ frames := 2, cells := 0, slots := 0, locals := 24 } : Room) #[(.ref a1)] (Q_aliinit Z wd kd a1 h0) ws := by
  refine own_met (Q := (Q_aliinit Z wd kd a1 h0)) _ _ (plainFor_of_name own_pn_1) ?_
  intro p e s m below meth c T X0 hx hby hml hret hlk hZ hown hnm e0
  replace hown : s.vm.findClass "java/util/AbstractList" = some m.cls := hown
  replace hnm : meth.name = "<init>" := hnm
  have hml : c.maxLocals = 1 := hml
  have N0 := Fr.nil Z.heap.size
  have K0 := Keep.refl h0 [a1]
  refine own_go (fun _ k => castTop (ef_aliinit m a1) k) ?_
  show own_Go p e below s _ _ _ (T.setTop (mkF m 0 #[rv a1] []))
  refine own_go (fun _ k => XS.aloadN X0.here hx rfl (hb hby d2_0) rfl rfl k) ?_
  obtain ⟨v1, T1, L1, X1, hQ1, st1⟩ := own_callI (y := (⟨"java/util/AbstractCollection", "<init>", "()V"⟩ : MethodName)) X0 hx hZ hown (ow13 hw) (ow14 hw) (ow17 hw) (ow18 hw) (rm_alcinit l Z a0 hw oDE oDV [] a1 h0 O0) 0 0 0 rfl (by show _ ≤ 0; omega) (by show _ ≤ 0; omega) e0 (g := (mkF m 1 #[rv a1] [(.ref a1)])) rfl (by rw [hml]; rfl) a1 [] [] (lenOf own_pd_0 rfl) rfl rfl (hb hby d2_1)
  obtain ⟨rfl, Nc3, Kc2⟩ := hQ1
  refine own_go st1 ?_
  clear st1 X0 e0
  replace N0 := Fr.app N0 Nc3
  clear Nc3
  refine own_go (fun _ k => XS.aloadN X1.here hx rfl (hb hby d2_4) rfl rfl k) ?_
  refine own_go (fun _ k => XS.iconst X1.here hx rfl (hb hby d2_5) k) ?_
  obtain ⟨T4, h4, X4, e4, W4, st4⟩ := putF X1 hx hZ hown (host := "") (Or.inl (ow22 hw)) Via.refl Kc2 fp3 fp0 (Or.inl (ow23 hw)) (ow2 hw) (ty := .int) own_fd0 rfl rfl (g := (mkF m 6 #[rv a1] [(.int (0 : Int32)), (.ref a1)])) rfl rfl (hb hby d2_6)
  refine own_go st4 ?_
  clear st4 X1 Kc2
  replace N0 := Fr.snoc X4 N0 big_a1
  replace fp0 := fp0.wr W4
  replace fp1 := fp1.other W4 (.inr (own_sn0 hw))
  replace fp2 := fp2.other W4 (.inr (own_sn1 hw))
  replace fp3 := fp3.same W4
  replace O0 := own_oldWr O0 W4 big_a1
  replace K0 := K0.wr W4 (Or.inl (List.mem_of_getElem? (i := 0) rfl))
  clear W4
  show own_Go p e below s _ _ _ (T4.setTop (mkF m 9 #[rv a1] []))
  refine own_retV X4 hx hlk e4 hret (hb hby d2_9) (by show _ ≤ 0; omega) (by show _ ≤ 0; omega) ?_
  exact ⟨rfl, N0, K0, fp0, fp1, fp2, fp3⟩
theorem d1_0 : decode jdk_38_method_2_code 0 = .ok (.aload_n 0, 1) := by decide +kernel
theorem d1_1 : decode jdk_38_method_2_code 1 = .ok (.invokespecial 1, 3) := by decide +kernel
theorem d1_4 : decode jdk_38_method_2_code 4 = .ok (.aload_n 0, 1) := by decide +kernel
theorem d1_5 : decode jdk_38_method_2_code 5 = .ok (.getstatic 39, 3) := by decide +kernel
theorem d1_8 : decode jdk_38_method_2_code 8 = .ok (.putfield 9, 3) := by decide +kernel
theorem d1_11 : decode jdk_38_method_2_code 11 = .ok (.return_, 1) := by decide +kernel
def Q_alinit (Z : State) (wd : Addr) (kd : ClassId) (a1 : Addr) (h0 : Heap) (v : Option Value) (h : Heap) (L : List Loc) : Prop := (v = none ∧ Fr Z.heap.size L ∧ Keep h0 h [a1] ∧ Exa Z h a1 "java/util/ArrayList" ∧ Fld Z h a1 "java/util/ArrayList" "size" "I" (.int (0 : Int32)) ∧ Fld Z h a1 "java/util/ArrayList" "elementData" "[Ljava/lang/Object;" (.ref wd) ∧ Fld Z h a1 "java/util/AbstractList" "modCount" "I" (.int (0 : Int32)))
theorem ef_alinit (m : MethodId) (x0 : Addr) : entryFrame m #[(.ref x0)] 1 = mkF m 0 #[rv x0] [] := by first | (simp [entryFrame, mkF, argsToLocals, Value.category]; done) | rfl
set_option maxRecDepth 65536 in
set_option maxHeartbeats 40000000 in
theorem rm_alinit (l : Launch) (Z : State) (a0 : Array Value) (hw : ∀ d ∈ tables_1, d.before a0 Z = true) {wd : Addr} {kd : ClassId} (oDE : Sta Z Z.heap "java/util/ArrayList" "DEFAULTCAPACITY_EMPTY_ELEMENTDATA" "[Ljava/lang/Object;" (.ref wd)) (oDV : Arv Z Z.heap wd kd (.object "java/lang/Object") (0 : Int32) [] .null) (ws : List Jvm.Cond) (a1 : Addr) (h0 : Heap) (O0 : Ext Z.heap h0) (fp0 : Exa Z h0 a1 "java/util/ArrayList") (fp1 : Fld Z h0 a1 "java/util/ArrayList" "size" "I" (.int (0 : Int32))) (fp2 : Fld Z h0 a1 "java/util/ArrayList" "elementData" "[Ljava/lang/Object;" .null) (fp3 : Fld Z h0 a1 "java/util/AbstractList" "modCount" "I" (.int (0 : Int32))) (big_a1 : Z.heap.size ≤ a1) :
    own_MF l Z h0 (⟨"java/util/ArrayList", "<init>", "()V"⟩ : MethodName) jdk_38_method_2_code 1 none ({ frames := 3, cells := 0, slots := 0, locals := 36 } : Room) #[(.ref a1)] (Q_alinit Z wd kd a1 h0) ws := by
  refine own_met (Q := (Q_alinit Z wd kd a1 h0)) _ _ (plainFor_of_name own_pn_2) ?_
  intro p e s m below meth c T X0 hx hby hml hret hlk hZ hown hnm e0
  replace hown : s.vm.findClass "java/util/ArrayList" = some m.cls := hown
  replace hnm : meth.name = "<init>" := hnm
  have hml : c.maxLocals = 1 := hml
  have N0 := Fr.nil Z.heap.size
  have K0 := Keep.refl h0 [a1]
  refine own_go (fun _ k => castTop (ef_alinit m a1) k) ?_
  show own_Go p e below s _ _ _ (T.setTop (mkF m 0 #[rv a1] []))
  refine own_go (fun _ k => XS.aloadN X0.here hx rfl (hb hby d1_0) rfl rfl k) ?_
  obtain ⟨v1, T1, L1, X1, hQ1, st1⟩ := own_callI (y := (⟨"java/util/AbstractList", "<init>", "()V"⟩ : MethodName)) X0 hx hZ hown (ow7 hw) (ow8 hw) (ow11 hw) (ow12 hw) (rm_aliinit l Z a0 hw oDE oDV [] a1 h0 O0 fp0 fp1 fp2 fp3 big_a1) 0 0 0 rfl (by show _ ≤ 0; omega) (by show _ ≤ 0; omega) e0 (g := (mkF m 1 #[rv a1] [(.ref a1)])) rfl (by rw [hml]; rfl) a1 [] [] (lenOf own_pd_0 rfl) rfl rfl (hb hby d1_1)
  obtain ⟨rfl, Nc7, Kc6, f2, f3, f4, f5⟩ := hQ1
  refine own_go st1 ?_
  clear st1 X0 e0
  replace N0 := Fr.app N0 Nc7
  clear Nc7
  replace fp0 := fp0.keep Kc6
  clear fp1
  clear fp2
  clear fp3
  replace O0 := own_oldKeep O0 Kc6 (allS big_a1 all0)
  replace K0 := K0.trans Kc6 (allS (Or.inl (List.mem_of_getElem? (i := 0) rfl)) all0)
  clear Kc6
  refine own_go (fun _ k => XS.aloadN X1.here hx rfl (hb hby d1_4) rfl rfl k) ?_
  obtain ⟨T8, X8, e8, st8⟩ := getS2 X1 hx hZ hown (host := "") (Or.inl (ow24 hw)) Via.refl (rfl : T1.heap = T1.heap) (oDE.ext O0) (g := (mkF m 5 #[rv a1] [(.ref a1)])) rfl (hb hby d1_5)
  refine own_go st8 ?_
  clear st8 X1
  obtain ⟨T9, h9, X9, e9, W9, st9⟩ := putF X8 hx hZ hown (host := "") (Or.inl (ow25 hw)) Via.refl e8 f4 f2 (Or.inl (ow26 hw)) (ow2 hw) (ty := (.array (.object "java/lang/Object"))) own_fd1 rfl rfl (g := (mkF m 8 #[rv a1] [(.ref wd), (.ref a1)])) rfl rfl (hb hby d1_8)
  refine own_go st9 ?_
  clear st9 X8 e8
  replace N0 := Fr.snoc X9 N0 big_a1
  replace f2 := f2.wr W9
  replace f3 := f3.other W9 (.inr (own_sn2 hw))
  replace f4 := f4.same W9
  replace f5 := f5.other W9 (.inr (own_sn1 hw).symm)
  replace O0 := own_oldWr O0 W9 big_a1
  replace K0 := K0.wr W9 (Or.inl (List.mem_of_getElem? (i := 0) rfl))
  clear W9
  show own_Go p e below s _ _ _ (T9.setTop (mkF m 11 #[rv a1] []))
  refine own_retV X9 hx hlk e9 hret (hb hby d1_11) (by show _ ≤ 0; omega) (by show _ ≤ 0; omega) ?_
  exact ⟨rfl, N0, K0, f2, f3, f4, f5⟩
theorem d19_0 : decode jdk_29_method_65_code 0 = .ok (.iload_n 0, 1) := by decide +kernel
theorem d19_1 : decode jdk_29_method_65_code 1 = .ok (.iload_n 1, 1) := by decide +kernel
theorem d19_2 : decode jdk_29_method_65_code 2 = .ok (.if_icmp .lt 7, 3) := by decide +kernel
theorem d19_5 : decode jdk_29_method_65_code 5 = .ok (.iload_n 0, 1) := by decide +kernel
theorem d19_6 : decode jdk_29_method_65_code 6 = .ok (.goto 4, 3) := by decide +kernel
theorem d19_9 : decode jdk_29_method_65_code 9 = .ok (.iload_n 1, 1) := by decide +kernel
theorem d19_10 : decode jdk_29_method_65_code 10 = .ok (.ireturn, 1) := by decide +kernel
def Q_maxi (Z : State) (wd : Addr) (kd : ClassId) (p1 : Int32) (p2 : Int32) (h0 : Heap) (v : Option Value) (h : Heap) (L : List Loc) : Prop := (v = some (.int p2) ∧ Fr Z.heap.size L ∧ p1 < p2 ∧ h = h0) ∨ (v = some (.int p1) ∧ Fr Z.heap.size L ∧ ¬ (p1 < p2) ∧ h = h0)
theorem ef_maxi (m : MethodId) (x0 : Int32) (x1 : Int32) : entryFrame m #[(.int x0), (.int x1)] 2 = mkF m 0 #[iv x0, iv x1] [] := by first | (simp [entryFrame, mkF, argsToLocals, Value.category]; done) | rfl
set_option maxRecDepth 65536 in
set_option maxHeartbeats 40000000 in
theorem rm_maxi (l : Launch) (Z : State) (a0 : Array Value) (hw : ∀ d ∈ tables_1, d.before a0 Z = true) {wd : Addr} {kd : ClassId} (oDE : Sta Z Z.heap "java/util/ArrayList" "DEFAULTCAPACITY_EMPTY_ELEMENTDATA" "[Ljava/lang/Object;" (.ref wd)) (oDV : Arv Z Z.heap wd kd (.object "java/lang/Object") (0 : Int32) [] .null) (ws : List Jvm.Cond) (p1 : Int32) (p2 : Int32) (h0 : Heap) (O0 : Ext Z.heap h0) :
    own_MF l Z h0 (⟨"java/lang/Math", "max", "(II)I"⟩ : MethodName) jdk_29_method_65_code 2 (some .int) ({ frames := 0, cells := 0, slots := 0, locals := 0 } : Room) #[(.int p1), (.int p2)] (Q_maxi Z wd kd p1 p2 h0) ws := by
  refine own_met (Q := (Q_maxi Z wd kd p1 p2 h0)) _ _ (Jvm.Free.JP.mathPlain rfl (by decide +kernel)) ?_
  intro p e s m below meth c T X0 hx hby hml hret hlk hZ hown hnm e0
  replace hown : s.vm.findClass "java/lang/Math" = some m.cls := hown
  replace hnm : meth.name = "max" := hnm
  have hml : c.maxLocals = 2 := hml
  have N0 := Fr.nil Z.heap.size
  have K0 := Keep.refl h0 []
  refine own_go (fun _ k => castTop (ef_maxi m p1 p2) k) ?_
  show own_Go p e below s _ _ _ (T.setTop (mkF m 0 #[iv p1, iv p2] []))
  refine own_go (fun _ k => XS.iloadN X0.here hx rfl (hb hby d19_0) rfl k) ?_
  refine own_go (fun _ k => XS.iloadN X0.here hx rfl (hb hby d19_1) rfl k) ?_
  by_cases hc1 : p1 < p2
  · refine own_go (fun _ k => XS.icmpYes X0.here hx rfl (pc0 := 2) (pc' := 9) rfl (hb hby d19_2) rfl (tlt hc1).1 (by decide) (by decide) k) ?_
    show own_Go p e below s _ _ _ (T.setTop (mkF m 9 #[iv p1, iv p2] []))
    refine own_go (fun _ k => XS.iloadN X0.here hx rfl (hb hby d19_9) rfl k) ?_
    show own_Go p e below s _ _ _ (T.setTop (mkF m 10 #[iv p1, iv p2] [(.int p2)]))
    refine own_retI X0 hx hlk e0 hret (hb hby d19_10) (by show _ ≤ 0; omega) (by show _ ≤ 0; omega) ?_
    exact Or.inl ⟨rfl, N0, hc1, rfl⟩
  · refine own_go (fun _ k => XS.icmpNo X0.here hx rfl (hb hby d19_2) rfl (flt hc1).1 k) ?_
    show own_Go p e below s _ _ _ (T.setTop (mkF m 5 #[iv p1, iv p2] []))
    refine own_go (fun _ k => XS.iloadN X0.here hx rfl (hb hby d19_5) rfl k) ?_
    refine own_go (fun _ k => XS.goto X0.here hx rfl (pc0 := 6) (pc' := 10) rfl (hb hby d19_6) (by decide) (by decide) k) ?_
    show own_Go p e below s _ _ _ (T.setTop (mkF m 10 #[iv p1, iv p2] [(.int p1)]))
    refine own_retI X0 hx hlk e0 hret (hb hby d19_10) (by show _ ≤ 0; omega) (by show _ ≤ 0; omega) ?_
    exact Or.inr (⟨rfl, N0, hc1, rfl⟩)
theorem d18_0 : decode jdk_38_method_6_code 0 = .ok (.aload_n 0, 1) := by decide +kernel
theorem d18_1 : decode jdk_38_method_6_code 1 = .ok (.getfield 9, 3) := by decide +kernel
theorem d18_4 : decode jdk_38_method_6_code 4 = .ok (.arraylength, 1) := by decide +kernel
theorem d18_5 : decode jdk_38_method_6_code 5 = .ok (.istore_n 2, 1) := by decide +kernel
theorem d18_6 : decode jdk_38_method_6_code 6 = .ok (.iload_n 2, 1) := by decide +kernel
theorem d18_7 : decode jdk_38_method_6_code 7 = .ok (.ifCond .gt 13, 3) := by decide +kernel
theorem d18_10 : decode jdk_38_method_6_code 10 = .ok (.aload_n 0, 1) := by decide +kernel
theorem d18_11 : decode jdk_38_method_6_code 11 = .ok (.getfield 9, 3) := by decide +kernel
theorem d18_14 : decode jdk_38_method_6_code 14 = .ok (.getstatic 39, 3) := by decide +kernel
theorem d18_17 : decode jdk_38_method_6_code 17 = .ok (.if_acmp .eq 28, 3) := by decide +kernel
theorem d18_45 : decode jdk_38_method_6_code 45 = .ok (.aload_n 0, 1) := by decide +kernel
theorem d18_46 : decode jdk_38_method_6_code 46 = .ok (.bipush 10, 2) := by decide +kernel
theorem d18_48 : decode jdk_38_method_6_code 48 = .ok (.iload_n 1, 1) := by decide +kernel
theorem d18_49 : decode jdk_38_method_6_code 49 = .ok (.invokestatic 79, 3) := by decide +kernel
theorem d18_52 : decode jdk_38_method_6_code 52 = .ok (.anewarray 7, 3) := by decide +kernel
theorem d18_55 : decode jdk_38_method_6_code 55 = .ok (.dup_x1, 1) := by decide +kernel
theorem d18_56 : decode jdk_38_method_6_code 56 = .ok (.putfield 9, 3) := by decide +kernel
theorem d18_59 : decode jdk_38_method_6_code 59 = .ok (.areturn, 1) := by decide +kernel
def Q_growI (Z : State) (wd : Addr) (kd : ClassId) (a1 : Addr) (mc : Int32) (h0 : Heap) (v : Option Value) (h : Heap) (L : List Loc) : Prop := (∃ b : Addr, ∃ k : ClassId, v = some (.ref b) ∧ Fr Z.heap.size L ∧ Keep h0 h [a1] ∧ h0.size ≤ b ∧ Exa Z h a1 "java/util/ArrayList" ∧ Fld Z h a1 "java/util/ArrayList" "size" "I" (.int (0 : Int32)) ∧ Fld Z h a1 "java/util/ArrayList" "elementData" "[Ljava/lang/Object;" (.ref b) ∧ Fld Z h a1 "java/util/AbstractList" "modCount" "I" (.int mc) ∧ Arv Z h b k (.object "java/lang/Object") (10 : Int32) [.null, .null, .null, .null, .null, .null, .null, .null, .null, .null] .null ∧ Ovr Z k "java/lang/Object")
theorem ef_growI (m : MethodId) (x0 : Addr) : entryFrame m #[(.ref x0), (.int (1 : Int32))] 4 = mkF m 0 #[rv x0, iv (1 : Int32), .unset, .unset] [] := by first | (simp [entryFrame, mkF, argsToLocals, Value.category]; done) | rfl
set_option maxRecDepth 65536 in
set_option maxHeartbeats 40000000 in
theorem rm_growI (l : Launch) (Z : State) (a0 : Array Value) (hw : ∀ d ∈ tables_1, d.before a0 Z = true) {wd : Addr} {kd : ClassId} (oDE : Sta Z Z.heap "java/util/ArrayList" "DEFAULTCAPACITY_EMPTY_ELEMENTDATA" "[Ljava/lang/Object;" (.ref wd)) (oDV : Arv Z Z.heap wd kd (.object "java/lang/Object") (0 : Int32) [] .null) (ws : List Jvm.Cond) (a1 : Addr) (mc : Int32) (h0 : Heap) (O0 : Ext Z.heap h0) (fp0 : Exa Z h0 a1 "java/util/ArrayList") (fp1 : Fld Z h0 a1 "java/util/ArrayList" "size" "I" (.int (0 : Int32))) (fp2 : Fld Z h0 a1 "java/util/ArrayList" "elementData" "[Ljava/lang/Object;" (.ref wd)) (fp3 : Fld Z h0 a1 "java/util/AbstractList" "modCount" "I" (.int mc)) (big_a1 : Z.heap.size ≤ a1) :
    own_MF l Z h0 (⟨"java/util/ArrayList", "grow", "(I)[Ljava/lang/Object;"⟩ : MethodName) jdk_38_method_6_code 4 (some (.array (.object "java/lang/Object"))) ({ frames := 1, cells := 1, slots := 10, locals := 14 } : Room) #[(.ref a1), (.int (1 : Int32))] (Q_growI Z wd kd a1 mc h0) ws := by
  refine own_met (Q := (Q_growI Z wd kd a1 mc h0)) _ _ (plainFor_of_name own_pn_2) ?_
  intro p e s m below meth c T X0 hx hby hml hret hlk hZ hown hnm e0
  replace hown : s.vm.findClass "java/util/ArrayList" = some m.cls := hown
  replace hnm : meth.name = "grow" := hnm
  have hml : c.maxLocals = 4 := hml
  have N0 := Fr.nil Z.heap.size
  have K0 := Keep.refl h0 [a1]
  refine own_go (fun _ k => castTop (ef_growI m a1) k) ?_
  show own_Go p e below s _ _ _ (T.setTop (mkF m 0 #[rv a1, iv (1 : Int32), .unset, .unset] []))
  refine own_go (fun _ k => XS.aloadN X0.here hx rfl (hb hby d18_0) rfl rfl k) ?_
  obtain ⟨T1, X1, e1, st1⟩ := getF X0 hx hZ hown (host := "") (Or.inl (ow25 hw)) Via.refl e0 fp2 (g := (mkF m 1 #[rv a1, iv (1 : Int32), .unset, .unset] [(.ref a1)])) rfl rfl (hb hby d18_1)
  refine own_go st1 ?_
  clear st1 X0 e0
  show own_Go p e below s _ _ _ (T1.setTop (mkF m 4 #[rv a1, iv (1 : Int32), .unset, .unset] [(.ref wd)]))
  obtain ⟨cl2, Ar2, -, S2, M2, -, -⟩ := id (oDV.ext O0)
  refine own_go (X1.arraylength hx (by rw [e1]; exact Ar2.1) (State.isArrayOf_alike hZ.alike Ar2.2.1) (g := (mkF m 4 #[rv a1, iv (1 : Int32), .unset, .unset] [(.ref wd)])) rfl rfl (hb hby d18_4)) ?_
  rw [len_of S2 M2]
  refine own_go (fun _ k => XS.istoreN X1.here hx rfl (hb hby d18_5) rfl (l' := #[rv a1, iv (1 : Int32), iv (0 : Int32), .unset]) rfl k) ?_
  refine own_go (fun _ k => XS.iloadN X1.here hx rfl (hb hby d18_6) rfl k) ?_
  refine own_go (fun _ k => XS.ifNo X1.here hx rfl (hb hby d18_7) rfl ((if0 _ _).trans (flt (by decide : ¬ ((0 : Int32) < (0 : Int32)))).2.2.1) k) ?_
  refine own_go (fun _ k => XS.aloadN X1.here hx rfl (hb hby d18_10) rfl rfl k) ?_
  obtain ⟨T3, X3, e3, st3⟩ := getF X1 hx hZ hown (host := "") (Or.inl (ow25 hw)) Via.refl e1 fp2 (g := (mkF m 11 #[rv a1, iv (1 : Int32), iv (0 : Int32), .unset] [(.ref a1)])) rfl rfl (hb hby d18_11)
  refine own_go st3 ?_
  clear st3 X1 e1
  obtain ⟨T4, X4, e4, st4⟩ := getS2 X3 hx hZ hown (host := "") (Or.inl (ow24 hw)) Via.refl e3 (oDE.ext O0) (g := (mkF m 14 #[rv a1, iv (1 : Int32), iv (0 : Int32), .unset] [(.ref wd)])) rfl (hb hby d18_14)
  refine own_go st4 ?_
  clear st4 X3 e3
  show own_Go p e below s _ _ _ (T4.setTop (mkF m 17 #[rv a1, iv (1 : Int32), iv (0 : Int32), .unset] [(.ref wd), (.ref wd)]))
  refine own_go (fun _ k => Jvm.RoadKit.acmp (g := (mkF m 17 #[rv a1, iv (1 : Int32), iv (0 : Int32), .unset] [(.ref wd), (.ref wd)])) X4 hx rfl rfl rfl (pc0 := 17) (pc' := 45) (same := true) rfl (hb hby d18_17) rfl (decide_eq_true rfl) (by decide) (by decide) k) ?_
  refine own_go (fun _ k => XS.aloadN X4.here hx rfl (hb hby d18_45) rfl rfl k) ?_
  refine own_go (fun _ k => XS.bipush X4.here hx rfl (hb hby d18_46) k) ?_
  refine own_go (fun _ k => XS.iloadN X4.here hx rfl (hb hby d18_48) rfl k) ?_
  obtain ⟨v5, T5, L5, X5, hQ5, st5⟩ := own_callS (y := (⟨"java/lang/Math", "max", "(II)I"⟩ : MethodName)) X4 hx hZ hown (ow166 hw) (ow167 hw) (ow168 hw) (ow169 hw) (rm_maxi l Z a0 hw oDE oDV [] (10 : Int32) (1 : Int32) h0 O0) 1 0 0 (by show _ ≤ 1; omega) (by show _ ≤ 10; omega) e4 (g := (mkF m 49 #[rv a1, iv (1 : Int32), iv (0 : Int32), .unset] [(.int (1 : Int32)), (.int (10 : Int32)), (.ref a1)])) rfl (by rw [hml]; rfl) [(.int (10 : Int32)), (.int (1 : Int32))] [(.ref a1)] (lenOf own_pd_1 rfl) rfl rfl (hb hby d18_49)
  rcases hQ5 with hQ5 | hQ5
  · obtain ⟨rfl, Nc8, hp6, Kc7⟩ := hQ5
    refine own_go st5 ?_
    clear st5 X4 e4
    replace N0 := Fr.app N0 Nc8
    clear Nc8
    exact absurd hp6 (by decide : ¬ ((10 : Int32) < (1 : Int32)))
  · obtain ⟨rfl, Nc11, hp9, Kc10⟩ := hQ5
    refine own_go st5 ?_
    clear st5 X4 e4
    replace N0 := Fr.app N0 Nc11
    clear Nc11
    show own_Go p e below s _ _ _ (T5.setTop (mkF m 52 #[rv a1, iv (1 : Int32), iv (0 : Int32), .unset] [(.int (10 : Int32)), (.ref a1)]))
    obtain ⟨T12, h12, k12, X12, e12, E12, A12, O12, st12⟩ := newR X5 hx hZ hown (ow170 hw) (ow171 hw) Kc10 (g := (mkF m 52 #[rv a1, iv (1 : Int32), iv (0 : Int32), .unset] [(.int (10 : Int32)), (.ref a1)])) rfl (hb hby d18_52) rfl (by decide) (cap := 10) (by decide) (by decide) (by show _ ≤ 1; omega) (by show _ ≤ 10; omega)
    obtain ⟨b12, g12⟩ : ∃ z, z = h0.size := ⟨_, rfl⟩
    rw [← g12] at A12 st12
    refine own_go st12 ?_
    clear st12 X5 Kc10
    have ge12 := Nat.le_of_eq g12.symm
    have ne13 : a1 ≠ b12 := Nat.ne_of_lt (Nat.lt_of_lt_of_le fp0.lt ge12)
    have big14 : Z.heap.size ≤ b12 := Nat.le_trans O0.1 ge12
    have sz15 : h0.size ≤ b12 := Nat.le_trans K0.1 ge12
    replace fp0 := fp0.ext E12
    replace fp1 := fp1.ext E12
    replace fp2 := fp2.ext E12
    replace fp3 := fp3.ext E12
    replace O0 := own_oldExt O0 E12
    replace K0 := K0.ext E12
    clear E12
    have f16 : Arv Z h12 b12 k12 (.object "java/lang/Object") (10 : Int32) [.null, .null, .null, .null, .null, .null, .null, .null, .null, .null] .null := (Arv.new A12 (by decide)).pad (pad_rep [] .null 10)
    refine own_go (fun _ k => XS.dupX1 X12.here hx rfl (hb hby d18_55) rfl rfl rfl k) ?_
    obtain ⟨T17, h17, X17, e17, W17, st17⟩ := putF X12 hx hZ hown (host := "") (Or.inl (ow25 hw)) Via.refl e12 fp2 fp0 (Or.inl (ow26 hw)) (ow2 hw) (ty := (.array (.object "java/lang/Object"))) own_fd1 rfl rfl (g := (mkF m 56 #[rv a1, iv (1 : Int32), iv (0 : Int32), .unset] [(.ref b12), (.ref a1), (.ref b12)])) rfl rfl (hb hby d18_56)
    refine own_go st17 ?_
    clear st17 X12 e12
    replace N0 := Fr.snoc X17 N0 big_a1
    replace fp0 := fp0.wr W17
    replace fp1 := fp1.other W17 (.inr (own_sn2 hw))
    replace fp2 := fp2.same W17
    replace fp3 := fp3.other W17 (.inr (own_sn1 hw).symm)
    replace f16 := f16.other W17 ne13.symm
    replace O0 := own_oldWr O0 W17 big_a1
    replace K0 := K0.wr W17 (Or.inl (List.mem_of_getElem? (i := 0) rfl))
    clear W17
    show own_Go p e below s _ _ _ (T17.setTop (mkF m 59 #[rv a1, iv (1 : Int32), iv (0 : Int32), .unset] [(.ref b12)]))
    refine own_retA X17 hx hlk e17 hret rfl rfl (hb hby d18_59) (by show _ ≤ 1; omega) (by show _ ≤ 10; omega) ?_
    exact ⟨b12, k12, rfl, N0, K0, sz15, fp0, fp1, fp2, fp3, f16, O12⟩
theorem d17_0 : decode jdk_38_method_7_code 0 = .ok (.aload_n 0, 1) := by decide +kernel
theorem d17_1 : decode jdk_38_method_7_code 1 = .ok (.aload_n 0, 1) := by decide +kernel
theorem d17_2 : decode jdk_38_method_7_code 2 = .ok (.getfield 48, 3) := by decide +kernel
theorem d17_5 : decode jdk_38_method_7_code 5 = .ok (.iconst 1, 1) := by decide +kernel
theorem d17_6 : decode jdk_38_method_7_code 6 = .ok (.iadd, 1) := by decide +kernel
theorem d17_7 : decode jdk_38_method_7_code 7 = .ok (.invokevirtual 69, 3) := by decide +kernel
theorem d17_10 : decode jdk_38_method_7_code 10 = .ok (.areturn, 1) := by decide +kernel
def Q_grow0 (Z : State) (wd : Addr) (kd : ClassId) (a1 : Addr) (mc : Int32) (h0 : Heap) (v : Option Value) (h : Heap) (L : List Loc) : Prop := (∃ b : Addr, ∃ k : ClassId, v = some (.ref b) ∧ Fr Z.heap.size L ∧ Keep h0 h [a1] ∧ h0.size ≤ b ∧ Exa Z h a1 "java/util/ArrayList" ∧ Fld Z h a1 "java/util/ArrayList" "size" "I" (.int (0 : Int32)) ∧ Fld Z h a1 "java/util/ArrayList" "elementData" "[Ljava/lang/Object;" (.ref b) ∧ Fld Z h a1 "java/util/AbstractList" "modCount" "I" (.int mc) ∧ Arv Z h b k (.object "java/lang/Object") (10 : Int32) [.null, .null, .null, .null, .null, .null, .null, .null, .null, .null] .null ∧ Ovr Z k "java/lang/Object")
theorem ef_grow0 (m : MethodId) (x0 : Addr) : entryFrame m #[(.ref x0)] 1 = mkF m 0 #[rv x0] [] := by first | (simp [entryFrame, mkF, argsToLocals, Value.category]; done) | rfl
set_option maxRecDepth 65536 in
set_option maxHeartbeats 40000000 in
theorem rm_grow0 (l : Launch) (Z : State) (a0 : Array Value) (hw : ∀ d ∈ tables_1, d.before a0 Z = true) {wd : Addr} {kd : ClassId} (oDE : Sta Z Z.heap "java/util/ArrayList" "DEFAULTCAPACITY_EMPTY_ELEMENTDATA" "[Ljava/lang/Object;" (.ref wd)) (oDV : Arv Z Z.heap wd kd (.object "java/lang/Object") (0 : Int32) [] .null) (ws : List Jvm.Cond) (a1 : Addr) (mc : Int32) (h0 : Heap) (O0 : Ext Z.heap h0) (fp0 : Exa Z h0 a1 "java/util/ArrayList") (fp1 : Fld Z h0 a1 "java/util/ArrayList" "size" "I" (.int (0 : Int32))) (fp2 : Fld Z h0 a1 "java/util/ArrayList" "elementData" "[Ljava/lang/Object;" (.ref wd)) (fp3 : Fld Z h0 a1 "java/util/AbstractList" "modCount" "I" (.int mc)) (big_a1 : Z.heap.size ≤ a1) :
    own_MF l Z h0 (⟨"java/util/ArrayList", "grow", "()[Ljava/lang/Object;"⟩ : MethodName) jdk_38_method_7_code 1 (some (.array (.object "java/lang/Object"))) ({ frames := 2, cells := 1, slots := 10, locals := 29 } : Room) #[(.ref a1)] (Q_grow0 Z wd kd a1 mc h0) ws := by
  refine own_met (Q := (Q_grow0 Z wd kd a1 mc h0)) _ _ (plainFor_of_name own_pn_2) ?_
  intro p e s m below meth c T X0 hx hby hml hret hlk hZ hown hnm e0
  replace hown : s.vm.findClass "java/util/ArrayList" = some m.cls := hown
  replace hnm : meth.name = "grow" := hnm
  have hml : c.maxLocals = 1 := hml
  have N0 := Fr.nil Z.heap.size
  have K0 := Keep.refl h0 [a1]
  refine own_go (fun _ k => castTop (ef_grow0 m a1) k) ?_
  show own_Go p e below s _ _ _ (T.setTop (mkF m 0 #[rv a1] []))
  refine own_go (fun _ k => XS.aloadN X0.here hx rfl (hb hby d17_0) rfl rfl k) ?_
  refine own_go (fun _ k => XS.aloadN X0.here hx rfl (hb hby d17_1) rfl rfl k) ?_
  obtain ⟨T1, X1, e1, st1⟩ := getF X0 hx hZ hown (host := "") (Or.inl (ow45 hw)) Via.refl e0 fp1 (g := (mkF m 2 #[rv a1] [(.ref a1), (.ref a1)])) rfl rfl (hb hby d17_2)
  refine own_go st1 ?_
  clear st1 X0 e0
  refine own_go (fun _ k => XS.iconst X1.here hx rfl (hb hby d17_5) k) ?_
  refine own_go (fun _ k => XS.iadd X1.here hx rfl (hb hby d17_6) rfl k) ?_
  obtain ⟨v2, T2, L2, X2, hQ2, st2⟩ := own_callP (y := (⟨"java/util/ArrayList", "grow", "(I)[Ljava/lang/Object;"⟩ : MethodName)) X1 hx hZ hown (ow161 hw) (ow162 hw) (ow164 hw) (ow163 hw) (ow3 hw) (ow165 hw) (rm_growI l Z a0 hw oDE oDV [] a1 mc h0 O0 fp0 fp1 fp2 fp3 big_a1) 0 1 10 (by show _ ≤ 1; omega) (by show _ ≤ 10; omega) e1 fp0 (g := (mkF m 7 #[rv a1] [(.int (1 : Int32)), (.ref a1)])) rfl (by rw [hml]; rfl) [(.int (1 : Int32))] [] (lenOf own_pd_2 rfl) rfl rfl (hb hby d17_7)
  obtain ⟨w3, w4, rfl, Nc13, Kc12, hb5, f6, f7, f8, f9, f10, f11⟩ := hQ2
  refine own_go st2 ?_
  clear st2 X1 e1
  replace N0 := Fr.app N0 Nc13
  clear Nc13
  have ne14 : a1 ≠ w3 := Nat.ne_of_lt (Nat.lt_of_lt_of_le fp0.lt hb5)
  have big15 : Z.heap.size ≤ w3 := Nat.le_trans O0.1 hb5
  have sz16 : h0.size ≤ w3 := Nat.le_trans K0.1 hb5
  replace fp0 := fp0.keep Kc12
  clear fp1
  clear fp2
  clear fp3
  replace O0 := own_oldKeep O0 Kc12 (allS big_a1 all0)
  replace K0 := K0.trans Kc12 (allS (Or.inl (List.mem_of_getElem? (i := 0) rfl)) all0)
  clear Kc12
  show own_Go p e below s _ _ _ (T2.setTop (mkF m 10 #[rv a1] [(.ref w3)]))
  refine own_retA X2 hx hlk (rfl : T2.heap = T2.heap) hret rfl rfl (hb hby d17_10) (by show _ ≤ 1; omega) (by show _ ≤ 10; omega) ?_
  exact ⟨w3, w4, rfl, N0, K0, sz16, f6, f7, f8, f9, f10, f11⟩
theorem d16_0 : decode jdk_38_method_24_code 0 = .ok (.iload_n 3, 1) := by decide +kernel
theorem d16_1 : decode jdk_38_method_24_code 1 = .ok (.aload_n 2, 1) := by decide +kernel
theorem d16_2 : decode jdk_38_method_24_code 2 = .ok (.arraylength, 1) := by decide +kernel
theorem d16_3 : decode jdk_38_method_24_code 3 = .ok (.if_icmp .ne 8, 3) := by decide +kernel
theorem d16_6 : decode jdk_38_method_24_code 6 = .ok (.aload_n 0, 1) := by decide +kernel
theorem d16_7 : decode jdk_38_method_24_code 7 = .ok (.invokevirtual 129, 3) := by decide +kernel
theorem d16_10 : decode jdk_38_method_24_code 10 = .ok (.astore_n 2, 1) := by decide +kernel
theorem d16_11 : decode jdk_38_method_24_code 11 = .ok (.aload_n 2, 1) := by decide +kernel
theorem d16_12 : decode jdk_38_method_24_code 12 = .ok (.iload_n 3, 1) := by decide +kernel
theorem d16_13 : decode jdk_38_method_24_code 13 = .ok (.aload_n 1, 1) := by decide +kernel
theorem d16_14 : decode jdk_38_method_24_code 14 = .ok (.aastore, 1) := by decide +kernel
theorem d16_15 : decode jdk_38_method_24_code 15 = .ok (.aload_n 0, 1) := by decide +kernel
theorem d16_16 : decode jdk_38_method_24_code 16 = .ok (.iload_n 3, 1) := by decide +kernel
theorem d16_17 : decode jdk_38_method_24_code 17 = .ok (.iconst 1, 1) := by decide +kernel
theorem d16_18 : decode jdk_38_method_24_code 18 = .ok (.iadd, 1) := by decide +kernel
theorem d16_19 : decode jdk_38_method_24_code 19 = .ok (.putfield 48, 3) := by decide +kernel
theorem d16_22 : decode jdk_38_method_24_code 22 = .ok (.return_, 1) := by decide +kernel
def Q_add3_0 (Z : State) (wd : Addr) (kd : ClassId) (a1 : Addr) (a2 : Addr) (mc : Int32) (h0 : Heap) (v : Option Value) (h : Heap) (L : List Loc) : Prop := (∃ b : Addr, ∃ k : ClassId, v = none ∧ Fr Z.heap.size L ∧ Keep h0 h [a1] ∧ h0.size ≤ b ∧ Exa Z h a1 "java/util/ArrayList" ∧ Fld Z h a1 "java/util/ArrayList" "size" "I" (.int (1 : Int32)) ∧ Fld Z h a1 "java/util/ArrayList" "elementData" "[Ljava/lang/Object;" (.ref b) ∧ Fld Z h a1 "java/util/AbstractList" "modCount" "I" (.int mc) ∧ Arv Z h b k (.object "java/lang/Object") (10 : Int32) [(.ref a2), .null, .null, .null, .null, .null, .null, .null, .null, .null] .null ∧ Ovr Z k "java/lang/Object")
theorem ef_add3_0 (m : MethodId) (x0 : Addr) (x1 : Addr) (x2 : Addr) : entryFrame m #[(.ref x0), (.ref x1), (.ref x2), (.int (0 : Int32))] 4 = mkF m 0 #[rv x0, rv x1, rv x2, iv (0 : Int32)] [] := by first | (simp [entryFrame, mkF, argsToLocals, Value.category]; done) | rfl
set_option maxRecDepth 65536 in
set_option maxHeartbeats 40000000 in
theorem rm_add3_0 (l : Launch) (Z : State) (a0 : Array Value) (hw : ∀ d ∈ tables_1, d.before a0 Z = true) {wd : Addr} {kd : ClassId} (oDE : Sta Z Z.heap "java/util/ArrayList" "DEFAULTCAPACITY_EMPTY_ELEMENTDATA" "[Ljava/lang/Object;" (.ref wd)) (oDV : Arv Z Z.heap wd kd (.object "java/lang/Object") (0 : Int32) [] .null) (ws : List Jvm.Cond) (a1 : Addr) (a2 : Addr) (mc : Int32) (h0 : Heap) (O0 : Ext Z.heap h0) (fp0 : Exa Z h0 a1 "java/util/ArrayList") (fp1 : Fld Z h0 a1 "java/util/ArrayList" "size" "I" (.int (0 : Int32))) (fp2 : Fld Z h0 a1 "java/util/ArrayList" "elementData" "[Ljava/lang/Object;" (.ref wd)) (fp3 : Fld Z h0 a1 "java/util/AbstractList" "modCount" "I" (.int mc)) (fp4 : Ins Z h0 a2 "java/lang/Object" true) (big_a1 : Z.heap.size ≤ a1) :
    own_MF l Z h0 (⟨"java/util/ArrayList", "add", "(Ljava/lang/Object;[Ljava/lang/Object;I)V"⟩ : MethodName) jdk_38_method_24_code 4 none ({ frames := 3, cells := 1, slots := 10, locals := 41 } : Room) #[(.ref a1), (.ref a2), (.ref wd), (.int (0 : Int32))] (Q_add3_0 Z wd kd a1 a2 mc h0) ws := by
  refine own_met (Q := (Q_add3_0 Z wd kd a1 a2 mc h0)) _ _ (plainFor_of_name own_pn_2) ?_
  intro p e s m below meth c T X0 hx hby hml hret hlk hZ hown hnm e0
  replace hown : s.vm.findClass "java/util/ArrayList" = some m.cls := hown
  replace hnm : meth.name = "add" := hnm
  have hml : c.maxLocals = 4 := hml
  have N0 := Fr.nil Z.heap.size
  have K0 := Keep.refl h0 [a1]
  refine own_go (fun _ k => castTop (ef_add3_0 m a1 a2 wd) k) ?_
  show own_Go p e below s _ _ _ (T.setTop (mkF m 0 #[rv a1, rv a2, rv wd, iv (0 : Int32)] []))
  refine own_go (fun _ k => XS.iloadN X0.here hx rfl (hb hby d16_0) rfl k) ?_
  refine own_go (fun _ k => XS.aloadN X0.here hx rfl (hb hby d16_1) rfl rfl k) ?_
  show own_Go p e below s _ _ _ (T.setTop (mkF m 2 #[rv a1, rv a2, rv wd, iv (0 : Int32)] [(.ref wd), (.int (0 : Int32))]))
  obtain ⟨cl1, Ar1, -, S1, M1, -, -⟩ := id (oDV.ext O0)
  refine own_go (X0.arraylength hx (by rw [e0]; exact Ar1.1) (State.isArrayOf_alike hZ.alike Ar1.2.1) (g := (mkF m 2 #[rv a1, rv a2, rv wd, iv (0 : Int32)] [(.ref wd), (.int (0 : Int32))])) rfl rfl (hb hby d16_2)) ?_
  rw [len_of S1 M1]
  refine own_go (fun _ k => XS.icmpNo X0.here hx rfl (hb hby d16_3) rfl (teq (by decide : (0 : Int32) = (0 : Int32))).2 k) ?_
  refine own_go (fun _ k => XS.aloadN X0.here hx rfl (hb hby d16_6) rfl rfl k) ?_
  obtain ⟨v2, T2, L2, X2, hQ2, st2⟩ := own_callP (y := (⟨"java/util/ArrayList", "grow", "()[Ljava/lang/Object;"⟩ : MethodName)) X0 hx hZ hown (ow156 hw) (ow157 hw) (ow159 hw) (ow158 hw) (ow3 hw) (ow160 hw) (rm_grow0 l Z a0 hw oDE oDV [] a1 mc h0 O0 fp0 fp1 fp2 fp3 big_a1) 0 1 10 (by show _ ≤ 1; omega) (by show _ ≤ 10; omega) e0 fp0 (g := (mkF m 7 #[rv a1, rv a2, rv wd, iv (0 : Int32)] [(.ref a1)])) rfl (by rw [hml]; rfl) [] [] (lenOf own_pd_3 rfl) rfl rfl (hb hby d16_7)
  obtain ⟨w3, w4, rfl, Nc13, Kc12, hb5, f6, f7, f8, f9, f10, f11⟩ := hQ2
  refine own_go st2 ?_
  clear st2 X0 e0
  replace N0 := Fr.app N0 Nc13
  clear Nc13
  have ne14 : a1 ≠ w3 := Nat.ne_of_lt (Nat.lt_of_lt_of_le fp0.lt hb5)
  have big15 : Z.heap.size ≤ w3 := Nat.le_trans O0.1 hb5
  have sz16 : h0.size ≤ w3 := Nat.le_trans K0.1 hb5
  replace fp0 := fp0.keep Kc12
  clear fp1
  clear fp2
  clear fp3
  replace O0 := own_oldKeep O0 Kc12 (allS big_a1 all0)
  replace K0 := K0.trans Kc12 (allS (Or.inl (List.mem_of_getElem? (i := 0) rfl)) all0)
  clear Kc12
  refine own_go (fun _ k => XS.astoreN X2.here hx rfl (hb hby d16_10) rfl rfl (l' := #[rv a1, rv a2, rv w3, iv (0 : Int32)]) rfl k) ?_
  refine own_go (fun _ k => XS.aloadN X2.here hx rfl (hb hby d16_11) rfl rfl k) ?_
  refine own_go (fun _ k => XS.iloadN X2.here hx rfl (hb hby d16_12) rfl k) ?_
  show own_Go p e below s _ _ _ (T2.setTop (mkF m 13 #[rv a1, rv a2, rv w3, iv (0 : Int32)] [(.int (0 : Int32)), (.ref w3)]))
  refine own_go (fun _ k => XS.aloadN X2.here hx rfl (hb hby d16_13) rfl rfl k) ?_
  obtain ⟨cl17, Ar17, q17, S17, M17, P17, G17⟩ := id f10
  have hin17 : ¬ ((0 : Int32) < 0 ∨ cl17.slots.size ≤ ((0 : Int32)).toNatClampNeg) := inb_of S17 ⟨by decide, by decide⟩
  obtain ⟨T18, h18, X18, e18, W18, st18⟩ := stR X2 hx hZ (rfl : T2.heap = T2.heap) Ar17 (j := (0 : Int32)) hin17 rfl (Sto.ofV Ar17 q17 f11 (own_insKeep fp4 K0)) (g := (mkF m 14 #[rv a1, rv a2, rv w3, iv (0 : Int32)] [(.ref a2), (.int (0 : Int32)), (.ref w3)])) rfl rfl (hb hby d16_14)
  refine own_go st18 ?_
  clear st18 X2
  have f19 : Arv Z h18 w3 w4 (.object "java/lang/Object") (10 : Int32) [(.ref a2), .null, .null, .null, .null, .null, .null, .null, .null, .null] .null := Arv.set Ar17 q17 S17 M17 P17 G17 rfl W18 0 rfl (Nat.le_of_ble_eq_true rfl)
  replace N0 := Fr.snoc X18 N0 big15
  replace f6 := f6.wr W18
  replace f7 := f7.other W18 (Or.inl ne14)
  replace f8 := f8.other W18 (Or.inl ne14)
  replace f9 := f9.other W18 (Or.inl ne14)
  clear f10
  replace O0 := own_oldWr O0 W18 big15
  replace K0 := K0.wr W18 (Or.inr sz16)
  clear W18
  clear Ar17 q17 S17 M17 P17 G17 hin17
  refine own_go (fun _ k => XS.aloadN X18.here hx rfl (hb hby d16_15) rfl rfl k) ?_
  refine own_go (fun _ k => XS.iloadN X18.here hx rfl (hb hby d16_16) rfl k) ?_
  refine own_go (fun _ k => XS.iconst X18.here hx rfl (hb hby d16_17) k) ?_
  refine own_go (fun _ k => XS.iadd X18.here hx rfl (hb hby d16_18) rfl k) ?_
  obtain ⟨T20, h20, X20, e20, W20, st20⟩ := putF X18 hx hZ hown (host := "") (Or.inl (ow45 hw)) Via.refl e18 f7 f6 (Or.inl (ow46 hw)) (ow2 hw) (ty := .int) own_fd0 rfl rfl (g := (mkF m 19 #[rv a1, rv a2, rv w3, iv (0 : Int32)] [(.int (1 : Int32)), (.ref a1)])) rfl rfl (hb hby d16_19)
  refine own_go st20 ?_
  clear st20 X18 e18
  replace N0 := Fr.snoc X20 N0 big_a1
  replace f6 := f6.wr W20
  replace f7 := f7.same W20
  replace f8 := f8.other W20 (.inr (own_sn2 hw).symm)
  replace f9 := f9.other W20 (.inr (own_sn0 hw).symm)
  replace f19 := f19.other W20 ne14.symm
  replace O0 := own_oldWr O0 W20 big_a1
  replace K0 := K0.wr W20 (Or.inl (List.mem_of_getElem? (i := 0) rfl))
  clear W20
  show own_Go p e below s _ _ _ (T20.setTop (mkF m 22 #[rv a1, rv a2, rv w3, iv (0 : Int32)] []))
  refine own_retV X20 hx hlk e20 hret (hb hby d16_22) (by show _ ≤ 1; omega) (by show _ ≤ 10; omega) ?_
  exact ⟨w3, w4, rfl, N0, K0, sz16, f6, f7, f8, f9, f19, f11⟩
theorem d15_0 : decode jdk_38_method_25_code 0 = .ok (.aload_n 0, 1) := by decide +kernel
theorem d15_1 : decode jdk_38_method_25_code 1 = .ok (.dup, 1) := by decide +kernel
theorem d15_2 : decode jdk_38_method_25_code 2 = .ok (.getfield 63, 3) := by decide +kernel
theorem d15_5 : decode jdk_38_method_25_code 5 = .ok (.iconst 1, 1) := by decide +kernel
theorem d15_6 : decode jdk_38_method_25_code 6 = .ok (.iadd, 1) := by decide +kernel
theorem d15_7 : decode jdk_38_method_25_code 7 = .ok (.putfield 63, 3) := by decide +kernel
theorem d15_10 : decode jdk_38_method_25_code 10 = .ok (.aload_n 0, 1) := by decide +kernel
theorem d15_11 : decode jdk_38_method_25_code 11 = .ok (.aload_n 1, 1) := by decide +kernel
theorem d15_12 : decode jdk_38_method_25_code 12 = .ok (.aload_n 0, 1) := by decide +kernel
theorem d15_13 : decode jdk_38_method_25_code 13 = .ok (.getfield 9, 3) := by decide +kernel
theorem d15_16 : decode jdk_38_method_25_code 16 = .ok (.aload_n 0, 1) := by decide +kernel
theorem d15_17 : decode jdk_38_method_25_code 17 = .ok (.getfield 48, 3) := by decide +kernel
theorem d15_20 : decode jdk_38_method_25_code 20 = .ok (.invokevirtual 131, 3) := by decide +kernel
theorem d15_23 : decode jdk_38_method_25_code 23 = .ok (.iconst 1, 1) := by decide +kernel
theorem d15_24 : decode jdk_38_method_25_code 24 = .ok (.ireturn, 1) := by decide +kernel
def Q_add1_0 (Z : State) (wd : Addr) (kd : ClassId) (a1 : Addr) (a2 : Addr) (mc : Int32) (h0 : Heap) (v : Option Value) (h : Heap) (L : List Loc) : Prop := (∃ b : Addr, ∃ k : ClassId, v = some (.int (1 : Int32)) ∧ Fr Z.heap.size L ∧ Keep h0 h [a1] ∧ h0.size ≤ b ∧ Exa Z h a1 "java/util/ArrayList" ∧ Fld Z h a1 "java/util/ArrayList" "size" "I" (.int (1 : Int32)) ∧ Fld Z h a1 "java/util/ArrayList" "elementData" "[Ljava/lang/Object;" (.ref b) ∧ Fld Z h a1 "java/util/AbstractList" "modCount" "I" (.int (mc + (1 : Int32))) ∧ Arv Z h b k (.object "java/lang/Object") (10 : Int32) [(.ref a2), .null, .null, .null, .null, .null, .null, .null, .null, .null] .null ∧ Ovr Z k "java/lang/Object")
theorem ef_add1_0 (m : MethodId) (x0 : Addr) (x1 : Addr) : entryFrame m #[(.ref x0), (.ref x1)] 2 = mkF m 0 #[rv x0, rv x1] [] := by first | (simp [entryFrame, mkF, argsToLocals, Value.category]; done) | rfl
set_option maxRecDepth 65536 in
set_option maxHeartbeats 40000000 in
theorem rm_add1_0 (l : Launch) (Z : State) (a0 : Array Value) (hw : ∀ d ∈ tables_1, d.before a0 Z = true) {wd : Addr} {kd : ClassId} (oDE : Sta Z Z.heap "java/util/ArrayList" "DEFAULTCAPACITY_EMPTY_ELEMENTDATA" "[Ljava/lang/Object;" (.ref wd)) (oDV : Arv Z Z.heap wd kd (.object "java/lang/Object") (0 : Int32) [] .null) (ws : List Jvm.Cond) (a1 : Addr) (a2 : Addr) (mc : Int32) (h0 : Heap) (O0 : Ext Z.heap h0) (fp0 : Exa Z h0 a1 "java/util/ArrayList") (fp1 : Fld Z h0 a1 "java/util/ArrayList" "size" "I" (.int (0 : Int32))) (fp2 : Fld Z h0 a1 "java/util/ArrayList" "elementData" "[Ljava/lang/Object;" (.ref wd)) (fp3 : Fld Z h0 a1 "java/util/AbstractList" "modCount" "I" (.int mc)) (fp4 : Ins Z h0 a2 "java/lang/Object" true) (big_a1 : Z.heap.size ≤ a1) :
    own_MF l Z h0 (⟨"java/util/ArrayList", "add", "(Ljava/lang/Object;)Z"⟩ : MethodName) jdk_38_method_25_code 2 (some .boolean) ({ frames := 4, cells := 1, slots := 10, locals := 56 } : Room) #[(.ref a1), (.ref a2)] (Q_add1_0 Z wd kd a1 a2 mc h0) ws := by
  refine own_met (Q := (Q_add1_0 Z wd kd a1 a2 mc h0)) _ _ (plainFor_of_name own_pn_2) ?_
  intro p e s m below meth c T X0 hx hby hml hret hlk hZ hown hnm e0
  replace hown : s.vm.findClass "java/util/ArrayList" = some m.cls := hown
  replace hnm : meth.name = "add" := hnm
  have hml : c.maxLocals = 2 := hml
  have N0 := Fr.nil Z.heap.size
  have K0 := Keep.refl h0 [a1]
  refine own_go (fun _ k => castTop (ef_add1_0 m a1 a2) k) ?_
  show own_Go p e below s _ _ _ (T.setTop (mkF m 0 #[rv a1, rv a2] []))
  refine own_go (fun _ k => XS.aloadN X0.here hx rfl (hb hby d15_0) rfl rfl k) ?_
  refine own_go (fun _ k => XS.dup X0.here hx rfl (hb hby d15_1) rfl rfl k) ?_
  obtain ⟨T1, X1, e1, st1⟩ := getF X0 hx hZ hown (host := "") (Or.inl (ow150 hw)) (Via.of (ow79 hw)) e0 fp3 (g := (mkF m 2 #[rv a1, rv a2] [(.ref a1), (.ref a1)])) rfl rfl (hb hby d15_2)
  refine own_go st1 ?_
  clear st1 X0 e0
  refine own_go (fun _ k => XS.iconst X1.here hx rfl (hb hby d15_5) k) ?_
  refine own_go (fun _ k => XS.iadd X1.here hx rfl (hb hby d15_6) rfl k) ?_
  obtain ⟨T2, h2, X2, e2, W2, st2⟩ := putF X1 hx hZ hown (host := "") (Or.inl (ow150 hw)) (Via.of (ow79 hw)) e1 fp3 fp0 (Or.inl (ow23 hw)) (ow2 hw) (ty := .int) own_fd0 rfl rfl (g := (mkF m 7 #[rv a1, rv a2] [(.int (mc + (1 : Int32))), (.ref a1)])) rfl rfl (hb hby d15_7)
  refine own_go st2 ?_
  clear st2 X1 e1
  replace N0 := Fr.snoc X2 N0 big_a1
  replace fp0 := fp0.wr W2
  replace fp1 := fp1.other W2 (.inr (own_sn0 hw))
  replace fp2 := fp2.other W2 (.inr (own_sn1 hw))
  replace fp3 := fp3.same W2
  replace O0 := own_oldWr O0 W2 big_a1
  replace K0 := K0.wr W2 (Or.inl (List.mem_of_getElem? (i := 0) rfl))
  clear W2
  refine own_go (fun _ k => XS.aloadN X2.here hx rfl (hb hby d15_10) rfl rfl k) ?_
  show own_Go p e below s _ _ _ (T2.setTop (mkF m 11 #[rv a1, rv a2] [(.ref a1)]))
  refine own_go (fun _ k => XS.aloadN X2.here hx rfl (hb hby d15_11) rfl rfl k) ?_
  refine own_go (fun _ k => XS.aloadN X2.here hx rfl (hb hby d15_12) rfl rfl k) ?_
  obtain ⟨T3, X3, e3, st3⟩ := getF X2 hx hZ hown (host := "") (Or.inl (ow25 hw)) Via.refl e2 fp2 (g := (mkF m 13 #[rv a1, rv a2] [(.ref a1), (.ref a2), (.ref a1)])) rfl rfl (hb hby d15_13)
  refine own_go st3 ?_
  clear st3 X2 e2
  refine own_go (fun _ k => XS.aloadN X3.here hx rfl (hb hby d15_16) rfl rfl k) ?_
  obtain ⟨T4, X4, e4, st4⟩ := getF X3 hx hZ hown (host := "") (Or.inl (ow45 hw)) Via.refl e3 fp1 (g := (mkF m 17 #[rv a1, rv a2] [(.ref a1), (.ref wd), (.ref a2), (.ref a1)])) rfl rfl (hb hby d15_17)
  refine own_go st4 ?_
  clear st4 X3 e3
  obtain ⟨v5, T5, L5, X5, hQ5, st5⟩ := own_callP (y := (⟨"java/util/ArrayList", "add", "(Ljava/lang/Object;[Ljava/lang/Object;I)V"⟩ : MethodName)) X4 hx hZ hown (ow151 hw) (ow152 hw) (ow154 hw) (ow153 hw) (ow3 hw) (ow155 hw) (rm_add3_0 l Z a0 hw oDE oDV [] a1 a2 (mc + (1 : Int32)) h2 O0 fp0 fp1 fp2 fp3 (own_insKeep fp4 K0) big_a1) 0 1 10 (by show _ ≤ 1; omega) (by show _ ≤ 10; omega) e4 fp0 (g := (mkF m 20 #[rv a1, rv a2] [(.int (0 : Int32)), (.ref wd), (.ref a2), (.ref a1)])) rfl (by rw [hml]; rfl) [(.ref a2), (.ref wd), (.int (0 : Int32))] [] (lenOf own_pd_4 rfl) rfl rfl (hb hby d15_20)
  obtain ⟨w6, w7, rfl, Nc16, Kc15, hb8, f9, f10, f11, f12, f13, f14⟩ := hQ5
  refine own_go st5 ?_
  clear st5 X4 e4
  replace N0 := Fr.app N0 Nc16
  clear Nc16
  have ne17 : a1 ≠ w6 := Nat.ne_of_lt (Nat.lt_of_lt_of_le fp0.lt hb8)
  have big18 : Z.heap.size ≤ w6 := Nat.le_trans O0.1 hb8
  have sz19 : h0.size ≤ w6 := Nat.le_trans K0.1 hb8
  replace fp0 := fp0.keep Kc15
  clear fp1
  clear fp2
  clear fp3
  replace O0 := own_oldKeep O0 Kc15 (allS big_a1 all0)
  replace K0 := K0.trans Kc15 (allS (Or.inl (List.mem_of_getElem? (i := 0) rfl)) all0)
  clear Kc15
  refine own_go (fun _ k => XS.iconst X5.here hx rfl (hb hby d15_23) k) ?_
  show own_Go p e below s _ _ _ (T5.setTop (mkF m 24 #[rv a1, rv a2] [(.int (1 : Int32))]))
  refine own_retN X5 hx hlk (rfl : T5.heap = T5.heap) (t := .boolean) hret (by simp) (hb hby d15_24) (by show _ ≤ 1; omega) (by show _ ≤ 10; omega) ?_
  exact ⟨w6, w7, rfl, N0, K0, sz19, f9, f10, f11, f12, f13, f14⟩
def Q_add3_1 (Z : State) (wd : Addr) (kd : ClassId) (a1 : Addr) (a2 : Addr) (b : Addr) (k : ClassId) (mc : Int32) (el1 : Addr) (h0 : Heap) (v : Option Value) (h : Heap) (L : List Loc) : Prop := (v = none ∧ Fr Z.heap.size L ∧ Keep h0 h [a1, b] ∧ Exa Z h a1 "java/util/ArrayList" ∧ Fld Z h a1 "java/util/ArrayList" "size" "I" (.int (2 : Int32)) ∧ Fld Z h a1 "java/util/ArrayList" "elementData" "[Ljava/lang/Object;" (.ref b) ∧ Fld Z h a1 "java/util/AbstractList" "modCount" "I" (.int mc) ∧ Arv Z h b k (.object "java/lang/Object") (10 : Int32) [(.ref el1), (.ref a2), .null, .null, .null, .null, .null, .null, .null, .null] .null ∧ Ovr Z k "java/lang/Object")
theorem ef_add3_1 (m : MethodId) (x0 : Addr) (x1 : Addr) (x2 : Addr) : entryFrame m #[(.ref x0), (.ref x1), (.ref x2), (.int (1 : Int32))] 4 = mkF m 0 #[rv x0, rv x1, rv x2, iv (1 : Int32)] [] := by first | (simp [entryFrame, mkF, argsToLocals, Value.category]; done) | rfl
set_option maxRecDepth 65536 in
set_option maxHeartbeats 40000000 in
theorem rm_add3_1 (l : Launch) (Z : State) (a0 : Array Value) (hw : ∀ d ∈ tables_1, d.before a0 Z = true) {wd : Addr} {kd : ClassId} (oDE : Sta Z Z.heap "java/util/ArrayList" "DEFAULTCAPACITY_EMPTY_ELEMENTDATA" "[Ljava/lang/Object;" (.ref wd)) (oDV : Arv Z Z.heap wd kd (.object "java/lang/Object") (0 : Int32) [] .null) (ws : List Jvm.Cond) (a1 : Addr) (a2 : Addr) (b : Addr) (k : ClassId) (mc : Int32) (el1 : Addr) (h0 : Heap) (O0 : Ext Z.heap h0) (fp0 : Exa Z h0 a1 "java/util/ArrayList") (fp1 : Fld Z h0 a1 "java/util/ArrayList" "size" "I" (.int (1 : Int32))) (fp2 : Fld Z h0 a1 "java/util/ArrayList" "elementData" "[Ljava/lang/Object;" (.ref b)) (fp3 : Fld Z h0 a1 "java/util/AbstractList" "modCount" "I" (.int mc)) (fp4 : Arv Z h0 b k (.object "java/lang/Object") (10 : Int32) [(.ref el1), .null, .null, .null, .null, .null, .null, .null, .null, .null] .null) (fp5 : Ovr Z k "java/lang/Object") (fp6 : Ins Z h0 a2 "java/lang/Object" true) (big_a1 : Z.heap.size ≤ a1) (big_b : Z.heap.size ≤ b) :
    own_MF l Z h0 (⟨"java/util/ArrayList", "add", "(Ljava/lang/Object;[Ljava/lang/Object;I)V"⟩ : MethodName) jdk_38_method_24_code 4 none ({ frames := 0, cells := 0, slots := 0, locals := 0 } : Room) #[(.ref a1), (.ref a2), (.ref b), (.int (1 : Int32))] (Q_add3_1 Z wd kd a1 a2 b k mc el1 h0) ws := by
  refine own_met (Q := (Q_add3_1 Z wd kd a1 a2 b k mc el1 h0)) _ _ (plainFor_of_name own_pn_2) ?_
  intro p e s m below meth c T X0 hx hby hml hret hlk hZ hown hnm e0
  replace hown : s.vm.findClass "java/util/ArrayList" = some m.cls := hown
  replace hnm : meth.name = "add" := hnm
  have hml : c.maxLocals = 4 := hml
  have N0 := Fr.nil Z.heap.size
  have K0 := Keep.refl h0 [a1, b]
  refine own_go (fun _ k => castTop (ef_add3_1 m a1 a2 b) k) ?_
  show own_Go p e below s _ _ _ (T.setTop (mkF m 0 #[rv a1, rv a2, rv b, iv (1 : Int32)] []))
  refine own_go (fun _ k => XS.iloadN X0.here hx rfl (hb hby d16_0) rfl k) ?_
  refine own_go (fun _ k => XS.aloadN X0.here hx rfl (hb hby d16_1) rfl rfl k) ?_
  show own_Go p e below s _ _ _ (T.setTop (mkF m 2 #[rv a1, rv a2, rv b, iv (1 : Int32)] [(.ref b), (.int (1 : Int32))]))
  obtain ⟨cl1, Ar1, -, S1, M1, -, -⟩ := id fp4
  refine own_go (X0.arraylength hx (by rw [e0]; exact Ar1.1) (State.isArrayOf_alike hZ.alike Ar1.2.1) (g := (mkF m 2 #[rv a1, rv a2, rv b, iv (1 : Int32)] [(.ref b), (.int (1 : Int32))])) rfl rfl (hb hby d16_2)) ?_
  rw [len_of S1 M1]
  refine own_go (fun _ k => XS.icmpYes X0.here hx rfl (pc0 := 3) (pc' := 11) rfl (hb hby d16_3) rfl (feq (by decide : ¬ ((1 : Int32) = (10 : Int32)))).2 (by decide) (by decide) k) ?_
  refine own_go (fun _ k => XS.aloadN X0.here hx rfl (hb hby d16_11) rfl rfl k) ?_
  refine own_go (fun _ k => XS.iloadN X0.here hx rfl (hb hby d16_12) rfl k) ?_
  refine own_go (fun _ k => XS.aloadN X0.here hx rfl (hb hby d16_13) rfl rfl k) ?_
  obtain ⟨cl2, Ar2, q2, S2, M2, P2, G2⟩ := id fp4
  have hin2 : ¬ ((1 : Int32) < 0 ∨ cl2.slots.size ≤ ((1 : Int32)).toNatClampNeg) := inb_of S2 ⟨by decide, by decide⟩
  obtain ⟨T3, h3, X3, e3, W3, st3⟩ := stR X0 hx hZ e0 Ar2 (j := (1 : Int32)) hin2 rfl (Sto.ofV Ar2 q2 fp5 (own_insKeep fp6 K0)) (g := (mkF m 14 #[rv a1, rv a2, rv b, iv (1 : Int32)] [(.ref a2), (.int (1 : Int32)), (.ref b)])) rfl rfl (hb hby d16_14)
  refine own_go st3 ?_
  clear st3 X0 e0
  have f4 : Arv Z h3 b k (.object "java/lang/Object") (10 : Int32) [(.ref el1), (.ref a2), .null, .null, .null, .null, .null, .null, .null, .null] .null := Arv.set Ar2 q2 S2 M2 P2 G2 rfl W3 1 rfl (Nat.le_of_ble_eq_true rfl)
  replace N0 := Fr.snoc X3 N0 big_b
  have ne5 : a1 ≠ b := (Exa.neArv fp0 fp4 (ow2 hw))
  replace fp0 := fp0.wr W3
  replace fp1 := fp1.other W3 (Or.inl ne5)
  replace fp2 := fp2.other W3 (Or.inl ne5)
  replace fp3 := fp3.other W3 (Or.inl ne5)
  clear fp4
  replace O0 := own_oldWr O0 W3 big_b
  replace K0 := K0.wr W3 (Or.inl (List.mem_of_getElem? (i := 1) rfl))
  clear W3
  clear Ar2 q2 S2 M2 P2 G2 hin2
  refine own_go (fun _ k => XS.aloadN X3.here hx rfl (hb hby d16_15) rfl rfl k) ?_
  show own_Go p e below s _ _ _ (T3.setTop (mkF m 16 #[rv a1, rv a2, rv b, iv (1 : Int32)] [(.ref a1)]))
  refine own_go (fun _ k => XS.iloadN X3.here hx rfl (hb hby d16_16) rfl k) ?_
  refine own_go (fun _ k => XS.iconst X3.here hx rfl (hb hby d16_17) k) ?_
  refine own_go (fun _ k => XS.iadd X3.here hx rfl (hb hby d16_18) rfl k) ?_
  obtain ⟨T6, h6, X6, e6, W6, st6⟩ := putF X3 hx hZ hown (host := "") (Or.inl (ow45 hw)) Via.refl e3 fp1 fp0 (Or.inl (ow46 hw)) (ow2 hw) (ty := .int) own_fd0 rfl rfl (g := (mkF m 19 #[rv a1, rv a2, rv b, iv (1 : Int32)] [(.int (2 : Int32)), (.ref a1)])) rfl rfl (hb hby d16_19)
  refine own_go st6 ?_
  clear st6 X3 e3
  replace N0 := Fr.snoc X6 N0 big_a1
  replace fp0 := fp0.wr W6
  replace fp1 := fp1.same W6
  replace fp2 := fp2.other W6 (.inr (own_sn2 hw).symm)
  replace fp3 := fp3.other W6 (.inr (own_sn0 hw).symm)
  replace f4 := f4.other W6 ne5.symm
  replace O0 := own_oldWr O0 W6 big_a1
  replace K0 := K0.wr W6 (Or.inl (List.mem_of_getElem? (i := 0) rfl))
  clear W6
  show own_Go p e below s _ _ _ (T6.setTop (mkF m 22 #[rv a1, rv a2, rv b, iv (1 : Int32)] []))
  refine own_retV X6 hx hlk e6 hret (hb hby d16_22) (by show _ ≤ 0; omega) (by show _ ≤ 0; omega) ?_
  exact ⟨rfl, N0, K0, fp0, fp1, fp2, fp3, f4, fp5⟩
def Q_add1_1 (Z : State) (wd : Addr) (kd : ClassId) (a1 : Addr) (a2 : Addr) (b : Addr) (k : ClassId) (mc : Int32) (el1 : Addr) (h0 : Heap) (v : Option Value) (h : Heap) (L : List Loc) : Prop := (v = some (.int (1 : Int32)) ∧ Fr Z.heap.size L ∧ Keep h0 h [a1, b] ∧ Exa Z h a1 "java/util/ArrayList" ∧ Fld Z h a1 "java/util/ArrayList" "size" "I" (.int (2 : Int32)) ∧ Fld Z h a1 "java/util/ArrayList" "elementData" "[Ljava/lang/Object;" (.ref b) ∧ Fld Z h a1 "java/util/AbstractList" "modCount" "I" (.int (mc + (1 : Int32))) ∧ Arv Z h b k (.object "java/lang/Object") (10 : Int32) [(.ref el1), (.ref a2), .null, .null, .null, .null, .null, .null, .null, .null] .null ∧ Ovr Z k "java/lang/Object")
theorem ef_add1_1 (m : MethodId) (x0 : Addr) (x1 : Addr) : entryFrame m #[(.ref x0), (.ref x1)] 2 = mkF m 0 #[rv x0, rv x1] [] := by first | (simp [entryFrame, mkF, argsToLocals, Value.category]; done) | rfl
set_option maxRecDepth 65536 in
set_option maxHeartbeats 40000000 in
theorem rm_add1_1 (l : Launch) (Z : State) (a0 : Array Value) (hw : ∀ d ∈ tables_1, d.before a0 Z = true) {wd : Addr} {kd : ClassId} (oDE : Sta Z Z.heap "java/util/ArrayList" "DEFAULTCAPACITY_EMPTY_ELEMENTDATA" "[Ljava/lang/Object;" (.ref wd)) (oDV : Arv Z Z.heap wd kd (.object "java/lang/Object") (0 : Int32) [] .null) (ws : List Jvm.Cond) (a1 : Addr) (a2 : Addr) (b : Addr) (k : ClassId) (mc : Int32) (el1 : Addr) (h0 : Heap) (O0 : Ext Z.heap h0) (fp0 : Exa Z h0 a1 "java/util/ArrayList") (fp1 : Fld Z h0 a1 "java/util/ArrayList" "size" "I" (.int (1 : Int32))) (fp2 : Fld Z h0 a1 "java/util/ArrayList" "elementData" "[Ljava/lang/Object;" (.ref b)) (fp3 : Fld Z h0 a1 "java/util/AbstractList" "modCount" "I" (.int mc)) (fp4 : Arv Z h0 b k (.object "java/lang/Object") (10 : Int32) [(.ref el1), .null, .null, .null, .null, .null, .null, .null, .null, .null] .null) (fp5 : Ovr Z k "java/lang/Object") (fp6 : Ins Z h0 a2 "java/lang/Object" true) (big_a1 : Z.heap.size ≤ a1) (big_b : Z.heap.size ≤ b) :
    own_MF l Z h0 (⟨"java/util/ArrayList", "add", "(Ljava/lang/Object;)Z"⟩ : MethodName) jdk_38_method_25_code 2 (some .boolean) ({ frames := 1, cells := 0, slots := 0, locals := 15 } : Room) #[(.ref a1), (.ref a2)] (Q_add1_1 Z wd kd a1 a2 b k mc el1 h0) ws := by
  refine own_met (Q := (Q_add1_1 Z wd kd a1 a2 b k mc el1 h0)) _ _ (plainFor_of_name own_pn_2) ?_
  intro p e s m below meth c T X0 hx hby hml hret hlk hZ hown hnm e0
  replace hown : s.vm.findClass "java/util/ArrayList" = some m.cls := hown
  replace hnm : meth.name = "add" := hnm
  have hml : c.maxLocals = 2 := hml
  have N0 := Fr.nil Z.heap.size
  have K0 := Keep.refl h0 [a1, b]
  refine own_go (fun _ k => castTop (ef_add1_1 m a1 a2) k) ?_
  show own_Go p e below s _ _ _ (T.setTop (mkF m 0 #[rv a1, rv a2] []))
  refine own_go (fun _ k => XS.aloadN X0.here hx rfl (hb hby d15_0) rfl rfl k) ?_
  refine own_go (fun _ k => XS.dup X0.here hx rfl (hb hby d15_1) rfl rfl k) ?_
  obtain ⟨T1, X1, e1, st1⟩ := getF X0 hx hZ hown (host := "") (Or.inl (ow150 hw)) (Via.of (ow79 hw)) e0 fp3 (g := (mkF m 2 #[rv a1, rv a2] [(.ref a1), (.ref a1)])) rfl rfl (hb hby d15_2)
  refine own_go st1 ?_
  clear st1 X0 e0
  refine own_go (fun _ k => XS.iconst X1.here hx rfl (hb hby d15_5) k) ?_
  refine own_go (fun _ k => XS.iadd X1.here hx rfl (hb hby d15_6) rfl k) ?_
  obtain ⟨T2, h2, X2, e2, W2, st2⟩ := putF X1 hx hZ hown (host := "") (Or.inl (ow150 hw)) (Via.of (ow79 hw)) e1 fp3 fp0 (Or.inl (ow23 hw)) (ow2 hw) (ty := .int) own_fd0 rfl rfl (g := (mkF m 7 #[rv a1, rv a2] [(.int (mc + (1 : Int32))), (.ref a1)])) rfl rfl (hb hby d15_7)
  refine own_go st2 ?_
  clear st2 X1 e1
  replace N0 := Fr.snoc X2 N0 big_a1
  have ne3 : b ≠ a1 := (Ne.symm (Exa.neArv fp0 fp4 (ow2 hw)))
  replace fp0 := fp0.wr W2
  replace fp1 := fp1.other W2 (.inr (own_sn0 hw))
  replace fp2 := fp2.other W2 (.inr (own_sn1 hw))
  replace fp3 := fp3.same W2
  replace fp4 := fp4.other W2 ne3
  replace O0 := own_oldWr O0 W2 big_a1
  replace K0 := K0.wr W2 (Or.inl (List.mem_of_getElem? (i := 0) rfl))
  clear W2
  refine own_go (fun _ k => XS.aloadN X2.here hx rfl (hb hby d15_10) rfl rfl k) ?_
  show own_Go p e below s _ _ _ (T2.setTop (mkF m 11 #[rv a1, rv a2] [(.ref a1)]))
  refine own_go (fun _ k => XS.aloadN X2.here hx rfl (hb hby d15_11) rfl rfl k) ?_
  refine own_go (fun _ k => XS.aloadN X2.here hx rfl (hb hby d15_12) rfl rfl k) ?_
  obtain ⟨T4, X4, e4, st4⟩ := getF X2 hx hZ hown (host := "") (Or.inl (ow25 hw)) Via.refl e2 fp2 (g := (mkF m 13 #[rv a1, rv a2] [(.ref a1), (.ref a2), (.ref a1)])) rfl rfl (hb hby d15_13)
  refine own_go st4 ?_
  clear st4 X2 e2
  refine own_go (fun _ k => XS.aloadN X4.here hx rfl (hb hby d15_16) rfl rfl k) ?_
  obtain ⟨T5, X5, e5, st5⟩ := getF X4 hx hZ hown (host := "") (Or.inl (ow45 hw)) Via.refl e4 fp1 (g := (mkF m 17 #[rv a1, rv a2] [(.ref a1), (.ref b), (.ref a2), (.ref a1)])) rfl rfl (hb hby d15_17)
  refine own_go st5 ?_
  clear st5 X4 e4
  obtain ⟨v6, T6, L6, X6, hQ6, st6⟩ := own_callP (y := (⟨"java/util/ArrayList", "add", "(Ljava/lang/Object;[Ljava/lang/Object;I)V"⟩ : MethodName)) X5 hx hZ hown (ow151 hw) (ow152 hw) (ow154 hw) (ow153 hw) (ow3 hw) (ow155 hw) (rm_add3_1 l Z a0 hw oDE oDV [] a1 a2 b k (mc + (1 : Int32)) el1 h2 O0 fp0 fp1 fp2 fp3 fp4 fp5 (own_insKeep fp6 K0) big_a1 big_b) 0 0 0 (by show _ ≤ 0; omega) (by show _ ≤ 0; omega) e5 fp0 (g := (mkF m 20 #[rv a1, rv a2] [(.int (1 : Int32)), (.ref b), (.ref a2), (.ref a1)])) rfl (by rw [hml]; rfl) [(.ref a2), (.ref b), (.int (1 : Int32))] [] (lenOf own_pd_4 rfl) rfl rfl (hb hby d15_20)
  obtain ⟨rfl, Nc14, Kc13, f7, f8, f9, f10, f11, f12⟩ := hQ6
  refine own_go st6 ?_
  clear st6 X5 e5
  replace N0 := Fr.app N0 Nc14
  clear Nc14
  replace fp0 := fp0.keep Kc13
  clear fp1
  clear fp2
  clear fp3
  clear fp4
  replace O0 := own_oldKeep O0 Kc13 (allS big_a1 (allS big_b all0))
  replace K0 := K0.trans Kc13 (allS (Or.inl (List.mem_of_getElem? (i := 0) rfl)) (allS (Or.inl (List.mem_of_getElem? (i := 1) rfl)) all0))
  clear Kc13
  refine own_go (fun _ k => XS.iconst X6.here hx rfl (hb hby d15_23) k) ?_
  show own_Go p e below s _ _ _ (T6.setTop (mkF m 24 #[rv a1, rv a2] [(.int (1 : Int32))]))
  refine own_retN X6 hx hlk (rfl : T6.heap = T6.heap) (t := .boolean) hret (by simp) (hb hby d15_24) (by show _ ≤ 0; omega) (by show _ ≤ 0; omega) ?_
  exact ⟨rfl, N0, K0, f7, f8, f9, f10, f11, f12⟩
def Q_add3_2 (Z : State) (wd : Addr) (kd : ClassId) (a1 : Addr) (a2 : Addr) (b : Addr) (k : ClassId) (mc : Int32) (el1 : Addr) (el2 : Addr) (h0 : Heap) (v : Option Value) (h : Heap) (L : List Loc) : Prop := (v = none ∧ Fr Z.heap.size L ∧ Keep h0 h [a1, b] ∧ Exa Z h a1 "java/util/ArrayList" ∧ Fld Z h a1 "java/util/ArrayList" "size" "I" (.int (3 : Int32)) ∧ Fld Z h a1 "java/util/ArrayList" "elementData" "[Ljava/lang/Object;" (.ref b) ∧ Fld Z h a1 "java/util/AbstractList" "modCount" "I" (.int mc) ∧ Arv Z h b k (.object "java/lang/Object") (10 : Int32) [(.ref el1), (.ref el2), (.ref a2), .null, .null, .null, .null, .null, .null, .null] .null ∧ Ovr Z k "java/lang/Object")
theorem ef_add3_2 (m : MethodId) (x0 : Addr) (x1 : Addr) (x2 : Addr) : entryFrame m #[(.ref x0), (.ref x1), (.ref x2), (.int (2 : Int32))] 4 = mkF m 0 #[rv x0, rv x1, rv x2, iv (2 : Int32)] [] := by first | (simp [entryFrame, mkF, argsToLocals, Value.category]; done) | rfl
set_option maxRecDepth 65536 in
set_option maxHeartbeats 40000000 in
theorem rm_add3_2 (l : Launch) (Z : State) (a0 : Array Value) (hw : ∀ d ∈ tables_1, d.before a0 Z = true) {wd : Addr} {kd : ClassId} (oDE : Sta Z Z.heap "java/util/ArrayList" "DEFAULTCAPACITY_EMPTY_ELEMENTDATA" "[Ljava/lang/Object;" (.ref wd)) (oDV : Arv Z Z.heap wd kd (.object "java/lang/Object") (0 : Int32) [] .null) (ws : List Jvm.Cond) (a1 : Addr) (a2 : Addr) (b : Addr) (k : ClassId) (mc : Int32) (el1 : Addr) (el2 : Addr) (h0 : Heap) (O0 : Ext Z.heap h0) (fp0 : Exa Z h0 a1 "java/util/ArrayList") (fp1 : Fld Z h0 a1 "java/util/ArrayList" "size" "I" (.int (2 : Int32))) (fp2 : Fld Z h0 a1 "java/util/ArrayList" "elementData" "[Ljava/lang/Object;" (.ref b)) (fp3 : Fld Z h0 a1 "java/util/AbstractList" "modCount" "I" (.int mc)) (fp4 : Arv Z h0 b k (.object "java/lang/Object") (10 : Int32) [(.ref el1), (.ref el2), .null, .null, .null, .null, .null, .null, .null, .null] .null) (fp5 : Ovr Z k "java/lang/Object") (fp6 : Ins Z h0 a2 "java/lang/Object" true) (big_a1 : Z.heap.size ≤ a1) (big_b : Z.heap.size ≤ b) :
    own_MF l Z h0 (⟨"java/util/ArrayList", "add", "(Ljava/lang/Object;[Ljava/lang/Object;I)V"⟩ : MethodName) jdk_38_method_24_code 4 none ({ frames := 0, cells := 0, slots := 0, locals := 0 } : Room) #[(.ref a1), (.ref a2), (.ref b), (.int (2 : Int32))] (Q_add3_2 Z wd kd a1 a2 b k mc el1 el2 h0) ws := by
  refine own_met (Q := (Q_add3_2 Z wd kd a1 a2 b k mc el1 el2 h0)) _ _ (plainFor_of_name own_pn_2) ?_
  intro p e s m below meth c T X0 hx hby hml hret hlk hZ hown hnm e0
  replace hown : s.vm.findClass "java/util/ArrayList" = some m.cls := hown
  replace hnm : meth.name = "add" := hnm
  have hml : c.maxLocals = 4 := hml
  have N0 := Fr.nil Z.heap.size
  have K0 := Keep.refl h0 [a1, b]
  refine own_go (fun _ k => castTop (ef_add3_2 m a1 a2 b) k) ?_
  show own_Go p e below s _ _ _ (T.setTop (mkF m 0 #[rv a1, rv a2, rv b, iv (2 : Int32)] []))
  refine own_go (fun _ k => XS.iloadN X0.here hx rfl (hb hby d16_0) rfl k) ?_
  refine own_go (fun _ k => XS.aloadN X0.here hx rfl (hb hby d16_1) rfl rfl k) ?_
  show own_Go p e below s _ _ _ (T.setTop (mkF m 2 #[rv a1, rv a2, rv b, iv (2 : Int32)] [(.ref b), (.int (2 : Int32))]))
  obtain ⟨cl1, Ar1, -, S1, M1, -, -⟩ := id fp4
  refine own_go (X0.arraylength hx (by rw [e0]; exact Ar1.1) (State.isArrayOf_alike hZ.alike Ar1.2.1) (g := (mkF m 2 #[rv a1, rv a2, rv b, iv (2 : Int32)] [(.ref b), (.int (2 : Int32))])) rfl rfl (hb hby d16_2)) ?_
  rw [len_of S1 M1]
  refine own_go (fun _ k => XS.icmpYes X0.here hx rfl (pc0 := 3) (pc' := 11) rfl (hb hby d16_3) rfl (feq (by decide : ¬ ((2 : Int32) = (10 : Int32)))).2 (by decide) (by decide) k) ?_
  refine own_go (fun _ k => XS.aloadN X0.here hx rfl (hb hby d16_11) rfl rfl k) ?_
  refine own_go (fun _ k => XS.iloadN X0.here hx rfl (hb hby d16_12) rfl k) ?_
  refine own_go (fun _ k => XS.aloadN X0.here hx rfl (hb hby d16_13) rfl rfl k) ?_
  obtain ⟨cl2, Ar2, q2, S2, M2, P2, G2⟩ := id fp4
  have hin2 : ¬ ((2 : Int32) < 0 ∨ cl2.slots.size ≤ ((2 : Int32)).toNatClampNeg) := inb_of S2 ⟨by decide, by decide⟩
  obtain ⟨T3, h3, X3, e3, W3, st3⟩ := stR X0 hx hZ e0 Ar2 (j := (2 : Int32)) hin2 rfl (Sto.ofV Ar2 q2 fp5 (own_insKeep fp6 K0)) (g := (mkF m 14 #[rv a1, rv a2, rv b, iv (2 : Int32)] [(.ref a2), (.int (2 : Int32)), (.ref b)])) rfl rfl (hb hby d16_14)
  refine own_go st3 ?_
  clear st3 X0 e0
  have f4 : Arv Z h3 b k (.object "java/lang/Object") (10 : Int32) [(.ref el1), (.ref el2), (.ref a2), .null, .null, .null, .null, .null, .null, .null] .null := Arv.set Ar2 q2 S2 M2 P2 G2 rfl W3 2 rfl (Nat.le_of_ble_eq_true rfl)
  replace N0 := Fr.snoc X3 N0 big_b
  have ne5 : a1 ≠ b := (Exa.neArv fp0 fp4 (ow2 hw))
  replace fp0 := fp0.wr W3
  replace fp1 := fp1.other W3 (Or.inl ne5)
  replace fp2 := fp2.other W3 (Or.inl ne5)
  replace fp3 := fp3.other W3 (Or.inl ne5)
  clear fp4
  replace O0 := own_oldWr O0 W3 big_b
  replace K0 := K0.wr W3 (Or.inl (List.mem_of_getElem? (i := 1) rfl))
  clear W3
  clear Ar2 q2 S2 M2 P2 G2 hin2
  refine own_go (fun _ k => XS.aloadN X3.here hx rfl (hb hby d16_15) rfl rfl k) ?_
  show own_Go p e below s _ _ _ (T3.setTop (mkF m 16 #[rv a1, rv a2, rv b, iv (2 : Int32)] [(.ref a1)]))
  refine own_go (fun _ k => XS.iloadN X3.here hx rfl (hb hby d16_16) rfl k) ?_
  refine own_go (fun _ k => XS.iconst X3.here hx rfl (hb hby d16_17) k) ?_
  refine own_go (fun _ k => XS.iadd X3.here hx rfl (hb hby d16_18) rfl k) ?_
  obtain ⟨T6, h6, X6, e6, W6, st6⟩ := putF X3 hx hZ hown (host := "") (Or.inl (ow45 hw)) Via.refl e3 fp1 fp0 (Or.inl (ow46 hw)) (ow2 hw) (ty := .int) own_fd0 rfl rfl (g := (mkF m 19 #[rv a1, rv a2, rv b, iv (2 : Int32)] [(.int (3 : Int32)), (.ref a1)])) rfl rfl (hb hby d16_19)
  refine own_go st6 ?_
  clear st6 X3 e3
  replace N0 := Fr.snoc X6 N0 big_a1
  replace fp0 := fp0.wr W6
  replace fp1 := fp1.same W6
  replace fp2 := fp2.other W6 (.inr (own_sn2 hw).symm)
  replace fp3 := fp3.other W6 (.inr (own_sn0 hw).symm)
  replace f4 := f4.other W6 ne5.symm
  replace O0 := own_oldWr O0 W6 big_a1
  replace K0 := K0.wr W6 (Or.inl (List.mem_of_getElem? (i := 0) rfl))
  clear W6
  show own_Go p e below s _ _ _ (T6.setTop (mkF m 22 #[rv a1, rv a2, rv b, iv (2 : Int32)] []))
  refine own_retV X6 hx hlk e6 hret (hb hby d16_22) (by show _ ≤ 0; omega) (by show _ ≤ 0; omega) ?_
  exact ⟨rfl, N0, K0, fp0, fp1, fp2, fp3, f4, fp5⟩
def Q_add1_2 (Z : State) (wd : Addr) (kd : ClassId) (a1 : Addr) (a2 : Addr) (b : Addr) (k : ClassId) (mc : Int32) (el1 : Addr) (el2 : Addr) (h0 : Heap) (v : Option Value) (h : Heap) (L : List Loc) : Prop := (v = some (.int (1 : Int32)) ∧ Fr Z.heap.size L ∧ Keep h0 h [a1, b] ∧ Exa Z h a1 "java/util/ArrayList" ∧ Fld Z h a1 "java/util/ArrayList" "size" "I" (.int (3 : Int32)) ∧ Fld Z h a1 "java/util/ArrayList" "elementData" "[Ljava/lang/Object;" (.ref b) ∧ Fld Z h a1 "java/util/AbstractList" "modCount" "I" (.int (mc + (1 : Int32))) ∧ Arv Z h b k (.object "java/lang/Object") (10 : Int32) [(.ref el1), (.ref el2), (.ref a2), .null, .null, .null, .null, .null, .null, .null] .null ∧ Ovr Z k "java/lang/Object")
theorem ef_add1_2 (m : MethodId) (x0 : Addr) (x1 : Addr) : entryFrame m #[(.ref x0), (.ref x1)] 2 = mkF m 0 #[rv x0, rv x1] [] := by first | (simp [entryFrame, mkF, argsToLocals, Value.category]; done) | rfl
set_option maxRecDepth 65536 in
set_option maxHeartbeats 40000000 in
theorem rm_add1_2 (l : Launch) (Z : State) (a0 : Array Value) (hw : ∀ d ∈ tables_1, d.before a0 Z = true) {wd : Addr} {kd : ClassId} (oDE : Sta Z Z.heap "java/util/ArrayList" "DEFAULTCAPACITY_EMPTY_ELEMENTDATA" "[Ljava/lang/Object;" (.ref wd)) (oDV : Arv Z Z.heap wd kd (.object "java/lang/Object") (0 : Int32) [] .null) (ws : List Jvm.Cond) (a1 : Addr) (a2 : Addr) (b : Addr) (k : ClassId) (mc : Int32) (el1 : Addr) (el2 : Addr) (h0 : Heap) (O0 : Ext Z.heap h0) (fp0 : Exa Z h0 a1 "java/util/ArrayList") (fp1 : Fld Z h0 a1 "java/util/ArrayList" "size" "I" (.int (2 : Int32))) (fp2 : Fld Z h0 a1 "java/util/ArrayList" "elementData" "[Ljava/lang/Object;" (.ref b)) (fp3 : Fld Z h0 a1 "java/util/AbstractList" "modCount" "I" (.int mc)) (fp4 : Arv Z h0 b k (.object "java/lang/Object") (10 : Int32) [(.ref el1), (.ref el2), .null, .null, .null, .null, .null, .null, .null, .null] .null) (fp5 : Ovr Z k "java/lang/Object") (fp6 : Ins Z h0 a2 "java/lang/Object" true) (big_a1 : Z.heap.size ≤ a1) (big_b : Z.heap.size ≤ b) :
    own_MF l Z h0 (⟨"java/util/ArrayList", "add", "(Ljava/lang/Object;)Z"⟩ : MethodName) jdk_38_method_25_code 2 (some .boolean) ({ frames := 1, cells := 0, slots := 0, locals := 15 } : Room) #[(.ref a1), (.ref a2)] (Q_add1_2 Z wd kd a1 a2 b k mc el1 el2 h0) ws := by
  refine own_met (Q := (Q_add1_2 Z wd kd a1 a2 b k mc el1 el2 h0)) _ _ (plainFor_of_name own_pn_2) ?_
  intro p e s m below meth c T X0 hx hby hml hret hlk hZ hown hnm e0
  replace hown : s.vm.findClass "java/util/ArrayList" = some m.cls := hown
  replace hnm : meth.name = "add" := hnm
  have hml : c.maxLocals = 2 := hml
  have N0 := Fr.nil Z.heap.size
  have K0 := Keep.refl h0 [a1, b]
  refine own_go (fun _ k => castTop (ef_add1_2 m a1 a2) k) ?_
  show own_Go p e below s _ _ _ (T.setTop (mkF m 0 #[rv a1, rv a2] []))
  refine own_go (fun _ k => XS.aloadN X0.here hx rfl (hb hby d15_0) rfl rfl k) ?_
  refine own_go (fun _ k => XS.dup X0.here hx rfl (hb hby d15_1) rfl rfl k) ?_
  obtain ⟨T1, X1, e1, st1⟩ := getF X0 hx hZ hown (host := "") (Or.inl (ow150 hw)) (Via.of (ow79 hw)) e0 fp3 (g := (mkF m 2 #[rv a1, rv a2] [(.ref a1), (.ref a1)])) rfl rfl (hb hby d15_2)
  refine own_go st1 ?_
  clear st1 X0 e0
  refine own_go (fun _ k => XS.iconst X1.here hx rfl (hb hby d15_5) k) ?_
  refine own_go (fun _ k => XS.iadd X1.here hx rfl (hb hby d15_6) rfl k) ?_
  obtain ⟨T2, h2, X2, e2, W2, st2⟩ := putF X1 hx hZ hown (host := "") (Or.inl (ow150 hw)) (Via.of (ow79 hw)) e1 fp3 fp0 (Or.inl (ow23 hw)) (ow2 hw) (ty := .int) own_fd0 rfl rfl (g := (mkF m 7 #[rv a1, rv a2] [(.int (mc + (1 : Int32))), (.ref a1)])) rfl rfl (hb hby d15_7)
  refine own_go st2 ?_
  clear st2 X1 e1
  replace N0 := Fr.snoc X2 N0 big_a1
  have ne3 : b ≠ a1 := (Ne.symm (Exa.neArv fp0 fp4 (ow2 hw)))
  replace fp0 := fp0.wr W2
  replace fp1 := fp1.other W2 (.inr (own_sn0 hw))
  replace fp2 := fp2.other W2 (.inr (own_sn1 hw))
  replace fp3 := fp3.same W2
  replace fp4 := fp4.other W2 ne3
  replace O0 := own_oldWr O0 W2 big_a1
  replace K0 := K0.wr W2 (Or.inl (List.mem_of_getElem? (i := 0) rfl))
  clear W2
  refine own_go (fun _ k => XS.aloadN X2.here hx rfl (hb hby d15_10) rfl rfl k) ?_
  show own_Go p e below s _ _ _ (T2.setTop (mkF m 11 #[rv a1, rv a2] [(.ref a1)]))
  refine own_go (fun _ k => XS.aloadN X2.here hx rfl (hb hby d15_11) rfl rfl k) ?_
  refine own_go (fun _ k => XS.aloadN X2.here hx rfl (hb hby d15_12) rfl rfl k) ?_
  obtain ⟨T4, X4, e4, st4⟩ := getF X2 hx hZ hown (host := "") (Or.inl (ow25 hw)) Via.refl e2 fp2 (g := (mkF m 13 #[rv a1, rv a2] [(.ref a1), (.ref a2), (.ref a1)])) rfl rfl (hb hby d15_13)
  refine own_go st4 ?_
  clear st4 X2 e2
  refine own_go (fun _ k => XS.aloadN X4.here hx rfl (hb hby d15_16) rfl rfl k) ?_
  obtain ⟨T5, X5, e5, st5⟩ := getF X4 hx hZ hown (host := "") (Or.inl (ow45 hw)) Via.refl e4 fp1 (g := (mkF m 17 #[rv a1, rv a2] [(.ref a1), (.ref b), (.ref a2), (.ref a1)])) rfl rfl (hb hby d15_17)
  refine own_go st5 ?_
  clear st5 X4 e4
  obtain ⟨v6, T6, L6, X6, hQ6, st6⟩ := own_callP (y := (⟨"java/util/ArrayList", "add", "(Ljava/lang/Object;[Ljava/lang/Object;I)V"⟩ : MethodName)) X5 hx hZ hown (ow151 hw) (ow152 hw) (ow154 hw) (ow153 hw) (ow3 hw) (ow155 hw) (rm_add3_2 l Z a0 hw oDE oDV [] a1 a2 b k (mc + (1 : Int32)) el1 el2 h2 O0 fp0 fp1 fp2 fp3 fp4 fp5 (own_insKeep fp6 K0) big_a1 big_b) 0 0 0 (by show _ ≤ 0; omega) (by show _ ≤ 0; omega) e5 fp0 (g := (mkF m 20 #[rv a1, rv a2] [(.int (2 : Int32)), (.ref b), (.ref a2), (.ref a1)])) rfl (by rw [hml]; rfl) [(.ref a2), (.ref b), (.int (2 : Int32))] [] (lenOf own_pd_4 rfl) rfl rfl (hb hby d15_20)
  obtain ⟨rfl, Nc14, Kc13, f7, f8, f9, f10, f11, f12⟩ := hQ6
  refine own_go st6 ?_
  clear st6 X5 e5
  replace N0 := Fr.app N0 Nc14
  clear Nc14
  replace fp0 := fp0.keep Kc13
  clear fp1
  clear fp2
  clear fp3
  clear fp4
  replace O0 := own_oldKeep O0 Kc13 (allS big_a1 (allS big_b all0))
  replace K0 := K0.trans Kc13 (allS (Or.inl (List.mem_of_getElem? (i := 0) rfl)) (allS (Or.inl (List.mem_of_getElem? (i := 1) rfl)) all0))
  clear Kc13
  refine own_go (fun _ k => XS.iconst X6.here hx rfl (hb hby d15_23) k) ?_
  show own_Go p e below s _ _ _ (T6.setTop (mkF m 24 #[rv a1, rv a2] [(.int (1 : Int32))]))
  refine own_retN X6 hx hlk (rfl : T6.heap = T6.heap) (t := .boolean) hret (by simp) (hb hby d15_24) (by show _ ≤ 0; omega) (by show _ ≤ 0; omega) ?_
  exact ⟨rfl, N0, K0, f7, f8, f9, f10, f11, f12⟩
theorem d6_0 : decode jdk_38_method_8_code 0 = .ok (.aload_n 0, 1) := by decide +kernel
theorem d6_1 : decode jdk_38_method_8_code 1 = .ok (.getfield 48, 3) := by decide +kernel
theorem d6_4 : decode jdk_38_method_8_code 4 = .ok (.ireturn, 1) := by decide +kernel
def Q_alsize (Z : State) (wd : Addr) (kd : ClassId) (a1 : Addr) (w : Int32) (h0 : Heap) (v : Option Value) (h : Heap) (L : List Loc) : Prop := (v = some (.int w) ∧ Fr Z.heap.size L ∧ h = h0)
theorem ef_alsize (m : MethodId) (x0 : Addr) : entryFrame m #[(.ref x0)] 1 = mkF m 0 #[rv x0] [] := by first | (simp [entryFrame, mkF, argsToLocals, Value.category]; done) | rfl
set_option maxRecDepth 65536 in
set_option maxHeartbeats 40000000 in
theorem rm_alsize (l : Launch) (Z : State) (a0 : Array Value) (hw : ∀ d ∈ tables_1, d.before a0 Z = true) {wd : Addr} {kd : ClassId} (oDE : Sta Z Z.heap "java/util/ArrayList" "DEFAULTCAPACITY_EMPTY_ELEMENTDATA" "[Ljava/lang/Object;" (.ref wd)) (oDV : Arv Z Z.heap wd kd (.object "java/lang/Object") (0 : Int32) [] .null) (ws : List Jvm.Cond) (a1 : Addr) (w : Int32) (h0 : Heap) (O0 : Ext Z.heap h0) (fp0 : Fld Z h0 a1 "java/util/ArrayList" "size" "I" (.int w)) :
    own_MF l Z h0 (⟨"java/util/ArrayList", "size", "()I"⟩ : MethodName) jdk_38_method_8_code 1 (some .int) ({ frames := 0, cells := 0, slots := 0, locals := 0 } : Room) #[(.ref a1)] (Q_alsize Z wd kd a1 w h0) ws := by
  refine own_met (Q := (Q_alsize Z wd kd a1 w h0)) _ _ (plainFor_of_name own_pn_2) ?_
  intro p e s m below meth c T X0 hx hby hml hret hlk hZ hown hnm e0
  replace hown : s.vm.findClass "java/util/ArrayList" = some m.cls := hown
  replace hnm : meth.name = "size" := hnm
  have hml : c.maxLocals = 1 := hml
  have N0 := Fr.nil Z.heap.size
  have K0 := Keep.refl h0 []
  refine own_go (fun _ k => castTop (ef_alsize m a1) k) ?_
  show own_Go p e below s _ _ _ (T.setTop (mkF m 0 #[rv a1] []))
  refine own_go (fun _ k => XS.aloadN X0.here hx rfl (hb hby d6_0) rfl rfl k) ?_
  obtain ⟨T1, X1, e1, st1⟩ := getF X0 hx hZ hown (host := "") (Or.inl (ow45 hw)) Via.refl e0 (fp0.keep K0 nin0) (g := (mkF m 1 #[rv a1] [(.ref a1)])) rfl rfl (hb hby d6_1)
  refine own_go st1 ?_
  clear st1 X0 e0
  show own_Go p e below s _ _ _ (T1.setTop (mkF m 4 #[rv a1] [(.int w)]))
  refine own_retI X1 hx hlk e1 hret (hb hby d6_4) (by show _ ≤ 0; omega) (by show _ ≤ 0; omega) ?_
  exact ⟨rfl, N0, rfl⟩
theorem d13_0 : decode jdk_65_method_103_code 0 = .ok (.iconst 0, 1) := by decide +kernel
theorem d13_1 : decode jdk_65_method_103_code 1 = .ok (.istore_n 2, 1) := by decide +kernel
theorem d13_2 : decode jdk_65_method_103_code 2 = .ok (.aload_n 0, 1) := by decide +kernel
theorem d13_3 : decode jdk_65_method_103_code 3 = .ok (.arraylength, 1) := by decide +kernel
theorem d13_4 : decode jdk_65_method_103_code 4 = .ok (.istore_n 3, 1) := by decide +kernel
theorem d13_5 : decode jdk_65_method_103_code 5 = .ok (.iload_n 2, 1) := by decide +kernel
theorem d13_6 : decode jdk_65_method_103_code 6 = .ok (.iload_n 3, 1) := by decide +kernel
theorem d13_7 : decode jdk_65_method_103_code 7 = .ok (.if_icmp .ge 13, 3) := by decide +kernel
theorem d13_20 : decode jdk_65_method_103_code 20 = .ok (.return_, 1) := by decide +kernel
def Q_fill0 (Z : State) (wd : Addr) (kd : ClassId) (a1 : Addr) (p2 : Int32) (k : ClassId) (h0 : Heap) (v : Option Value) (h : Heap) (L : List Loc) : Prop := (v = none ∧ Fr Z.heap.size L ∧ h = h0)
theorem ef_fill0 (m : MethodId) (x0 : Addr) (x1 : Int32) : entryFrame m #[(.ref x0), (.int x1)] 4 = mkF m 0 #[rv x0, iv x1, .unset, .unset] [] := by first | (simp [entryFrame, mkF, argsToLocals, Value.category]; done) | rfl
set_option maxRecDepth 65536 in
set_option maxHeartbeats 40000000 in
theorem rm_fill0 (l : Launch) (Z : State) (a0 : Array Value) (hw : ∀ d ∈ tables_1, d.before a0 Z = true) {wd : Addr} {kd : ClassId} (oDE : Sta Z Z.heap "java/util/ArrayList" "DEFAULTCAPACITY_EMPTY_ELEMENTDATA" "[Ljava/lang/Object;" (.ref wd)) (oDV : Arv Z Z.heap wd kd (.object "java/lang/Object") (0 : Int32) [] .null) (ws : List Jvm.Cond) (a1 : Addr) (p2 : Int32) (k : ClassId) (h0 : Heap) (O0 : Ext Z.heap h0) (fp0 : Arv Z h0 a1 k .int (0 : Int32) [] (.int (0 : Int32))) :
    own_MF l Z h0 (⟨"java/util/Arrays", "fill", "([II)V"⟩ : MethodName) jdk_65_method_103_code 4 none ({ frames := 0, cells := 0, slots := 0, locals := 0 } : Room) #[(.ref a1), (.int p2)] (Q_fill0 Z wd kd a1 p2 k h0) ws := by
  refine own_met (Q := (Q_fill0 Z wd kd a1 p2 k h0)) _ _ (plainFor_of_name own_pn_3) ?_
  intro p e s m below meth c T X0 hx hby hml hret hlk hZ hown hnm e0
  replace hown : s.vm.findClass "java/util/Arrays" = some m.cls := hown
  replace hnm : meth.name = "fill" := hnm
  have hml : c.maxLocals = 4 := hml
  have N0 := Fr.nil Z.heap.size
  have K0 := Keep.refl h0 []
  refine own_go (fun _ k => castTop (ef_fill0 m a1 p2) k) ?_
  show own_Go p e below s _ _ _ (T.setTop (mkF m 0 #[rv a1, iv p2, .unset, .unset] []))
  refine own_go (fun _ k => XS.iconst X0.here hx rfl (hb hby d13_0) k) ?_
  refine own_go (fun _ k => XS.istoreN X0.here hx rfl (hb hby d13_1) rfl (l' := #[rv a1, iv p2, iv (0 : Int32), .unset]) rfl k) ?_
  refine own_go (fun _ k => XS.aloadN X0.here hx rfl (hb hby d13_2) rfl rfl k) ?_
  show own_Go p e below s _ _ _ (T.setTop (mkF m 3 #[rv a1, iv p2, iv (0 : Int32), .unset] [(.ref a1)]))
  obtain ⟨cl1, Ar1, -, S1, M1, -, -⟩ := id (fp0.keep K0 nin0)
  refine own_go (X0.arraylength hx (by rw [e0]; exact Ar1.1) (State.isArrayOf_alike hZ.alike Ar1.2.1) (g := (mkF m 3 #[rv a1, iv p2, iv (0 : Int32), .unset] [(.ref a1)])) rfl rfl (hb hby d13_3)) ?_
  rw [len_of S1 M1]
  refine own_go (fun _ k => XS.istoreN X0.here hx rfl (hb hby d13_4) rfl (l' := #[rv a1, iv p2, iv (0 : Int32), iv (0 : Int32)]) rfl k) ?_
  refine own_go (fun _ k => XS.iloadN X0.here hx rfl (hb hby d13_5) rfl k) ?_
  refine own_go (fun _ k => XS.iloadN X0.here hx rfl (hb hby d13_6) rfl k) ?_
  refine own_go (fun _ k => XS.icmpYes X0.here hx rfl (pc0 := 7) (pc' := 20) rfl (hb hby d13_7) rfl (flt (by decide : ¬ ((0 : Int32) < (0 : Int32)))).2.1 (by decide) (by decide) k) ?_
  show own_Go p e below s _ _ _ (T.setTop (mkF m 20 #[rv a1, iv p2, iv (0 : Int32), iv (0 : Int32)] []))
  refine own_retV X0 hx hlk e0 hret (hb hby d13_20) (by show _ ≤ 0; omega) (by show _ ≤ 0; omega) ?_
  exact ⟨rfl, N0, rfl⟩
theorem d12_0 : decode prog_49_method_1_code 0 = .ok (.aload_n 0, 1) := by decide +kernel
theorem d12_1 : decode prog_49_method_1_code 1 = .ok (.invokespecial 1, 3) := by decide +kernel
theorem d12_4 : decode prog_49_method_1_code 4 = .ok (.aload_n 0, 1) := by decide +kernel
theorem d12_5 : decode prog_49_method_1_code 5 = .ok (.iconst (-1), 1) := by decide +kernel
theorem d12_6 : decode prog_49_method_1_code 6 = .ok (.putfield 7, 3) := by decide +kernel
theorem d12_9 : decode prog_49_method_1_code 9 = .ok (.aload_n 0, 1) := by decide +kernel
theorem d12_10 : decode prog_49_method_1_code 10 = .ok (.iconst (-1), 1) := by decide +kernel
theorem d12_11 : decode prog_49_method_1_code 11 = .ok (.putfield 13, 3) := by decide +kernel
theorem d12_14 : decode prog_49_method_1_code 14 = .ok (.aload_n 0, 1) := by decide +kernel
theorem d12_15 : decode prog_49_method_1_code 15 = .ok (.iconst (-1), 1) := by decide +kernel
theorem d12_16 : decode prog_49_method_1_code 16 = .ok (.putfield 16, 3) := by decide +kernel
theorem d12_19 : decode prog_49_method_1_code 19 = .ok (.aload_n 0, 1) := by decide +kernel
theorem d12_20 : decode prog_49_method_1_code 20 = .ok (.iload_n 1, 1) := by decide +kernel
theorem d12_21 : decode prog_49_method_1_code 21 = .ok (.putfield 19, 3) := by decide +kernel
theorem d12_24 : decode prog_49_method_1_code 24 = .ok (.aload_n 0, 1) := by decide +kernel
theorem d12_25 : decode prog_49_method_1_code 25 = .ok (.iload_n 2, 1) := by decide +kernel
theorem d12_26 : decode prog_49_method_1_code 26 = .ok (.putfield 22, 3) := by decide +kernel
theorem d12_29 : decode prog_49_method_1_code 29 = .ok (.aload_n 0, 1) := by decide +kernel
theorem d12_30 : decode prog_49_method_1_code 30 = .ok (.aload_n 3, 1) := by decide +kernel
theorem d12_31 : decode prog_49_method_1_code 31 = .ok (.putfield 25, 3) := by decide +kernel
theorem d12_34 : decode prog_49_method_1_code 34 = .ok (.aload_n 0, 1) := by decide +kernel
theorem d12_35 : decode prog_49_method_1_code 35 = .ok (.iload 4, 2) := by decide +kernel
theorem d12_37 : decode prog_49_method_1_code 37 = .ok (.putfield 29, 3) := by decide +kernel
theorem d12_40 : decode prog_49_method_1_code 40 = .ok (.aload_n 0, 1) := by decide +kernel
theorem d12_41 : decode prog_49_method_1_code 41 = .ok (.aload 5, 2) := by decide +kernel
theorem d12_43 : decode prog_49_method_1_code 43 = .ok (.putfield 32, 3) := by decide +kernel
theorem d12_46 : decode prog_49_method_1_code 46 = .ok (.aload_n 0, 1) := by decide +kernel
theorem d12_47 : decode prog_49_method_1_code 47 = .ok (.aload_n 3, 1) := by decide +kernel
theorem d12_48 : decode prog_49_method_1_code 48 = .ok (.arraylength, 1) := by decide +kernel
theorem d12_49 : decode prog_49_method_1_code 49 = .ok (.newarray .int, 2) := by decide +kernel
theorem d12_51 : decode prog_49_method_1_code 51 = .ok (.putfield 36, 3) := by decide +kernel
theorem d12_54 : decode prog_49_method_1_code 54 = .ok (.aload_n 0, 1) := by decide +kernel
theorem d12_55 : decode prog_49_method_1_code 55 = .ok (.getfield 36, 3) := by decide +kernel
theorem d12_58 : decode prog_49_method_1_code 58 = .ok (.iconst (-1), 1) := by decide +kernel
theorem d12_59 : decode prog_49_method_1_code 59 = .ok (.invokestatic 40, 3) := by decide +kernel
theorem d12_62 : decode prog_49_method_1_code 62 = .ok (.return_, 1) := by decide +kernel
def Q_vinit (Z : State) (wd : Addr) (kd : ClassId) (a1 : Addr) (p2 : Int32) (p3 : Int32) (a4 : Addr) (p5 : Int32) (k : ClassId) (h0 : Heap) (v : Option Value) (h : Heap) (L : List Loc) : Prop := (∃ les : Addr, v = none ∧ Fr Z.heap.size L ∧ Keep h0 h [a1] ∧ Exa Z h a1 "com/example/nudo/nudo/Vehicle" ∧ Fld Z h a1 "com/example/nudo/nudo/Vehicle" "position" "I" (.int (-1 : Int32)) ∧ Fld Z h a1 "com/example/nudo/nudo/Vehicle" "candidateStep" "I" (.int (-1 : Int32)) ∧ Fld Z h a1 "com/example/nudo/nudo/Vehicle" "exitStep" "I" (.int (-1 : Int32)) ∧ Fld Z h a1 "com/example/nudo/nudo/Vehicle" "trip" "I" (.int p2) ∧ Fld Z h a1 "com/example/nudo/nudo/Vehicle" "rank" "I" (.int p3) ∧ Fld Z h a1 "com/example/nudo/nudo/Vehicle" "path" "[Lcom/example/nudo/nudo/CellLink;" (.ref a4) ∧ Fld Z h a1 "com/example/nudo/nudo/Vehicle" "departureStep" "I" (.int p5) ∧ Fld Z h a1 "com/example/nudo/nudo/Vehicle" "vehicleClass" "Lcom/example/nudo/nudo/VehicleClass;" .null ∧ Fld Z h a1 "com/example/nudo/nudo/Vehicle" "linkEntrySteps" "[I" (.ref les))
theorem ef_vinit (m : MethodId) (x0 : Addr) (x1 : Int32) (x2 : Int32) (x3 : Addr) (x4 : Int32) : entryFrame m #[(.ref x0), (.int x1), (.int x2), (.ref x3), (.int x4), .null] 6 = mkF m 0 #[rv x0, iv x1, iv x2, rv x3, iv x4, .val .null] [] := by first | (simp [entryFrame, mkF, argsToLocals, Value.category]; done) | rfl
set_option maxRecDepth 65536 in
set_option maxHeartbeats 40000000 in
theorem rm_vinit (l : Launch) (Z : State) (a0 : Array Value) (hw : ∀ d ∈ tables_1, d.before a0 Z = true) {wd : Addr} {kd : ClassId} (oDE : Sta Z Z.heap "java/util/ArrayList" "DEFAULTCAPACITY_EMPTY_ELEMENTDATA" "[Ljava/lang/Object;" (.ref wd)) (oDV : Arv Z Z.heap wd kd (.object "java/lang/Object") (0 : Int32) [] .null) (ws : List Jvm.Cond) (a1 : Addr) (p2 : Int32) (p3 : Int32) (a4 : Addr) (p5 : Int32) (k : ClassId) (h0 : Heap) (O0 : Ext Z.heap h0) (fp0 : Exa Z h0 a1 "com/example/nudo/nudo/Vehicle") (fp1 : Fld Z h0 a1 "com/example/nudo/nudo/Vehicle" "position" "I" (.int (0 : Int32))) (fp2 : Fld Z h0 a1 "com/example/nudo/nudo/Vehicle" "candidateStep" "I" (.int (0 : Int32))) (fp3 : Fld Z h0 a1 "com/example/nudo/nudo/Vehicle" "exitStep" "I" (.int (0 : Int32))) (fp4 : Fld Z h0 a1 "com/example/nudo/nudo/Vehicle" "trip" "I" (.int (0 : Int32))) (fp5 : Fld Z h0 a1 "com/example/nudo/nudo/Vehicle" "rank" "I" (.int (0 : Int32))) (fp6 : Fld Z h0 a1 "com/example/nudo/nudo/Vehicle" "path" "[Lcom/example/nudo/nudo/CellLink;" .null) (fp7 : Fld Z h0 a1 "com/example/nudo/nudo/Vehicle" "departureStep" "I" (.int (0 : Int32))) (fp8 : Fld Z h0 a1 "com/example/nudo/nudo/Vehicle" "vehicleClass" "Lcom/example/nudo/nudo/VehicleClass;" .null) (fp9 : Fld Z h0 a1 "com/example/nudo/nudo/Vehicle" "linkEntrySteps" "[I" .null) (fp10 : Arv Z h0 a4 k (.object "com/example/nudo/nudo/CellLink") (0 : Int32) [] .null) (big_a1 : Z.heap.size ≤ a1) :
    own_MF l Z h0 (⟨"com/example/nudo/nudo/Vehicle", "<init>", "(II[Lcom/example/nudo/nudo/CellLink;ILcom/example/nudo/nudo/VehicleClass;)V"⟩ : MethodName) prog_49_method_1_code 6 none ({ frames := 1, cells := 1, slots := 0, locals := 15 } : Room) #[(.ref a1), (.int p2), (.int p3), (.ref a4), (.int p5), .null] (Q_vinit Z wd kd a1 p2 p3 a4 p5 k h0) ws := by
  refine own_met (Q := (Q_vinit Z wd kd a1 p2 p3 a4 p5 k h0)) _ _ (plainFor_of_name own_pn_4) ?_
  intro p e s m below meth c T X0 hx hby hml hret hlk hZ hown hnm e0
  replace hown : s.vm.findClass "com/example/nudo/nudo/Vehicle" = some m.cls := hown
  replace hnm : meth.name = "<init>" := hnm
  have hml : c.maxLocals = 6 := hml
  have N0 := Fr.nil Z.heap.size
  have K0 := Keep.refl h0 [a1]
  refine own_go (fun _ k => castTop (ef_vinit m a1 p2 p3 a4 p5) k) ?_
  have ne1 : a4 ≠ a1 := (Ne.symm (Exa.neArv fp0 fp10 (ow110 hw)))
  show own_Go p e below s _ _ _ (T.setTop (mkF m 0 #[rv a1, iv p2, iv p3, rv a4, iv p5, .val .null] []))
  refine own_go (fun _ k => XS.aloadN X0.here hx rfl (hb hby d12_0) rfl rfl k) ?_
  obtain ⟨T2, X2, e2, st2⟩ := initO X0 hx hZ hown (ow117 hw) (ow20 hw) (ow21 hw) e0 (g := (mkF m 1 #[rv a1, iv p2, iv p3, rv a4, iv p5, .val .null] [(.ref a1)])) rfl (by rw [hml]; rfl) rfl (hb hby d12_1) (by decide) (W := 0) (by show 2 * 0 + _ ≤ _; exact Nat.le_of_eq rfl) (by decide)
  refine own_go st2 ?_
  clear st2 X0 e0
  refine own_go (fun _ k => XS.aloadN X2.here hx rfl (hb hby d12_4) rfl rfl k) ?_
  refine own_go (fun _ k => XS.iconst X2.here hx rfl (hb hby d12_5) k) ?_
  obtain ⟨T3, h3, X3, e3, W3, st3⟩ := putF X2 hx hZ hown (host := "") (Or.inl (ow118 hw)) Via.refl e2 fp1 fp0 (Or.inl (ow119 hw)) (ow110 hw) (ty := .int) own_fd0 rfl rfl (g := (mkF m 6 #[rv a1, iv p2, iv p3, rv a4, iv p5, .val .null] [(.int (-1 : Int32)), (.ref a1)])) rfl rfl (hb hby d12_6)
  refine own_go st3 ?_
  clear st3 X2 e2
  replace N0 := Fr.snoc X3 N0 big_a1
  replace fp0 := fp0.wr W3
  replace fp1 := fp1.same W3
  replace fp2 := fp2.other W3 (.inr (own_sn3 hw))
  replace fp3 := fp3.other W3 (.inr (own_sn4 hw))
  replace fp4 := fp4.other W3 (.inr (own_sn5 hw))
  replace fp5 := fp5.other W3 (.inr (own_sn6 hw))
  replace fp6 := fp6.other W3 (.inr (own_sn7 hw))
  replace fp7 := fp7.other W3 (.inr (own_sn8 hw))
  replace fp8 := fp8.other W3 (.inr (own_sn9 hw))
  replace fp9 := fp9.other W3 (.inr (own_sn10 hw))
  replace O0 := own_oldWr O0 W3 big_a1
  replace K0 := K0.wr W3 (Or.inl (List.mem_of_getElem? (i := 0) rfl))
  clear W3
  refine own_go (fun _ k => XS.aloadN X3.here hx rfl (hb hby d12_9) rfl rfl k) ?_
  refine own_go (fun _ k => XS.iconst X3.here hx rfl (hb hby d12_10) k) ?_
  show own_Go p e below s _ _ _ (T3.setTop (mkF m 11 #[rv a1, iv p2, iv p3, rv a4, iv p5, .val .null] [(.int (-1 : Int32)), (.ref a1)]))
  obtain ⟨T4, h4, X4, e4, W4, st4⟩ := putF X3 hx hZ hown (host := "") (Or.inl (ow120 hw)) Via.refl e3 fp2 fp0 (Or.inl (ow121 hw)) (ow110 hw) (ty := .int) own_fd0 rfl rfl (g := (mkF m 11 #[rv a1, iv p2, iv p3, rv a4, iv p5, .val .null] [(.int (-1 : Int32)), (.ref a1)])) rfl rfl (hb hby d12_11)
  refine own_go st4 ?_
  clear st4 X3 e3
  replace N0 := Fr.snoc X4 N0 big_a1
  replace fp0 := fp0.wr W4
  replace fp1 := fp1.other W4 (.inr (own_sn3 hw).symm)
  replace fp2 := fp2.same W4
  replace fp3 := fp3.other W4 (.inr (own_sn11 hw))
  replace fp4 := fp4.other W4 (.inr (own_sn12 hw))
  replace fp5 := fp5.other W4 (.inr (own_sn13 hw))
  replace fp6 := fp6.other W4 (.inr (own_sn14 hw))
  replace fp7 := fp7.other W4 (.inr (own_sn15 hw))
  replace fp8 := fp8.other W4 (.inr (own_sn16 hw))
  replace fp9 := fp9.other W4 (.inr (own_sn17 hw))
  replace O0 := own_oldWr O0 W4 big_a1
  replace K0 := K0.wr W4 (Or.inl (List.mem_of_getElem? (i := 0) rfl))
  clear W4
  refine own_go (fun _ k => XS.aloadN X4.here hx rfl (hb hby d12_14) rfl rfl k) ?_
  refine own_go (fun _ k => XS.iconst X4.here hx rfl (hb hby d12_15) k) ?_
  obtain ⟨T5, h5, X5, e5, W5, st5⟩ := putF X4 hx hZ hown (host := "") (Or.inl (ow122 hw)) Via.refl e4 fp3 fp0 (Or.inl (ow123 hw)) (ow110 hw) (ty := .int) own_fd0 rfl rfl (g := (mkF m 16 #[rv a1, iv p2, iv p3, rv a4, iv p5, .val .null] [(.int (-1 : Int32)), (.ref a1)])) rfl rfl (hb hby d12_16)
  refine own_go st5 ?_
  clear st5 X4 e4
  replace N0 := Fr.snoc X5 N0 big_a1
  replace fp0 := fp0.wr W5
  replace fp1 := fp1.other W5 (.inr (own_sn4 hw).symm)
  replace fp2 := fp2.other W5 (.inr (own_sn11 hw).symm)
  replace fp3 := fp3.same W5
  replace fp4 := fp4.other W5 (.inr (own_sn18 hw))
  replace fp5 := fp5.other W5 (.inr (own_sn19 hw))
  replace fp6 := fp6.other W5 (.inr (own_sn20 hw))
  replace fp7 := fp7.other W5 (.inr (own_sn21 hw))
  replace fp8 := fp8.other W5 (.inr (own_sn22 hw))
  replace fp9 := fp9.other W5 (.inr (own_sn23 hw))
  replace O0 := own_oldWr O0 W5 big_a1
  replace K0 := K0.wr W5 (Or.inl (List.mem_of_getElem? (i := 0) rfl))
  clear W5
  refine own_go (fun _ k => XS.aloadN X5.here hx rfl (hb hby d12_19) rfl rfl k) ?_
  refine own_go (fun _ k => XS.iloadN X5.here hx rfl (hb hby d12_20) rfl k) ?_
  obtain ⟨T6, h6, X6, e6, W6, st6⟩ := putF X5 hx hZ hown (host := "") (Or.inl (ow124 hw)) Via.refl e5 fp4 fp0 (Or.inr ⟨(ow125 hw), rfl, hnm⟩) (ow110 hw) (ty := .int) own_fd0 rfl rfl (g := (mkF m 21 #[rv a1, iv p2, iv p3, rv a4, iv p5, .val .null] [(.int p2), (.ref a1)])) rfl rfl (hb hby d12_21)
  refine own_go st6 ?_
  clear st6 X5 e5
  replace N0 := Fr.snoc X6 N0 big_a1
  replace fp0 := fp0.wr W6
  replace fp1 := fp1.other W6 (.inr (own_sn5 hw).symm)
  replace fp2 := fp2.other W6 (.inr (own_sn12 hw).symm)
  replace fp3 := fp3.other W6 (.inr (own_sn18 hw).symm)
  replace fp4 := fp4.same W6
  replace fp5 := fp5.other W6 (.inr (own_sn24 hw))
  replace fp6 := fp6.other W6 (.inr (own_sn25 hw))
  replace fp7 := fp7.other W6 (.inr (own_sn26 hw))
  replace fp8 := fp8.other W6 (.inr (own_sn27 hw))
  replace fp9 := fp9.other W6 (.inr (own_sn28 hw))
  replace O0 := own_oldWr O0 W6 big_a1
  replace K0 := K0.wr W6 (Or.inl (List.mem_of_getElem? (i := 0) rfl))
  clear W6
  show own_Go p e below s _ _ _ (T6.setTop (mkF m 24 #[rv a1, iv p2, iv p3, rv a4, iv p5, .val .null] []))
  refine own_go (fun _ k => XS.aloadN X6.here hx rfl (hb hby d12_24) rfl rfl k) ?_
  refine own_go (fun _ k => XS.iloadN X6.here hx rfl (hb hby d12_25) rfl k) ?_
  obtain ⟨T7, h7, X7, e7, W7, st7⟩ := putF X6 hx hZ hown (host := "") (Or.inl (ow126 hw)) Via.refl e6 fp5 fp0 (Or.inr ⟨(ow127 hw), rfl, hnm⟩) (ow110 hw) (ty := .int) own_fd0 rfl rfl (g := (mkF m 26 #[rv a1, iv p2, iv p3, rv a4, iv p5, .val .null] [(.int p3), (.ref a1)])) rfl rfl (hb hby d12_26)
  refine own_go st7 ?_
  clear st7 X6 e6
  replace N0 := Fr.snoc X7 N0 big_a1
  replace fp0 := fp0.wr W7
  replace fp1 := fp1.other W7 (.inr (own_sn6 hw).symm)
  replace fp2 := fp2.other W7 (.inr (own_sn13 hw).symm)
  replace fp3 := fp3.other W7 (.inr (own_sn19 hw).symm)
  replace fp4 := fp4.other W7 (.inr (own_sn24 hw).symm)
  replace fp5 := fp5.same W7
  replace fp6 := fp6.other W7 (.inr (own_sn29 hw))
  replace fp7 := fp7.other W7 (.inr (own_sn30 hw))
  replace fp8 := fp8.other W7 (.inr (own_sn31 hw))
  replace fp9 := fp9.other W7 (.inr (own_sn32 hw))
  replace O0 := own_oldWr O0 W7 big_a1
  replace K0 := K0.wr W7 (Or.inl (List.mem_of_getElem? (i := 0) rfl))
  clear W7
  refine own_go (fun _ k => XS.aloadN X7.here hx rfl (hb hby d12_29) rfl rfl k) ?_
  refine own_go (fun _ k => XS.aloadN X7.here hx rfl (hb hby d12_30) rfl rfl k) ?_
  obtain ⟨T8, h8, X8, e8, W8, st8⟩ := putF X7 hx hZ hown (host := "") (Or.inl (ow128 hw)) Via.refl e7 fp6 fp0 (Or.inr ⟨(ow129 hw), rfl, hnm⟩) (ow110 hw) (ty := (.array (.object "com/example/nudo/nudo/CellLink"))) own_fd2 rfl rfl (g := (mkF m 31 #[rv a1, iv p2, iv p3, rv a4, iv p5, .val .null] [(.ref a4), (.ref a1)])) rfl rfl (hb hby d12_31)
  refine own_go st8 ?_
  clear st8 X7 e7
  replace N0 := Fr.snoc X8 N0 big_a1
  replace fp0 := fp0.wr W8
  replace fp1 := fp1.other W8 (.inr (own_sn7 hw).symm)
  replace fp2 := fp2.other W8 (.inr (own_sn14 hw).symm)
  replace fp3 := fp3.other W8 (.inr (own_sn20 hw).symm)
  replace fp4 := fp4.other W8 (.inr (own_sn25 hw).symm)
  replace fp5 := fp5.other W8 (.inr (own_sn29 hw).symm)
  replace fp6 := fp6.same W8
  replace fp7 := fp7.other W8 (.inr (own_sn33 hw))
  replace fp8 := fp8.other W8 (.inr (own_sn34 hw))
  replace fp9 := fp9.other W8 (.inr (own_sn35 hw))
  replace O0 := own_oldWr O0 W8 big_a1
  replace K0 := K0.wr W8 (Or.inl (List.mem_of_getElem? (i := 0) rfl))
  clear W8
  refine own_go (fun _ k => XS.aloadN X8.here hx rfl (hb hby d12_34) rfl rfl k) ?_
  show own_Go p e below s _ _ _ (T8.setTop (mkF m 35 #[rv a1, iv p2, iv p3, rv a4, iv p5, .val .null] [(.ref a1)]))
  refine own_go (fun _ k => XS.iload X8.here hx rfl (hb hby d12_35) rfl k) ?_
  obtain ⟨T9, h9, X9, e9, W9, st9⟩ := putF X8 hx hZ hown (host := "") (Or.inl (ow130 hw)) Via.refl e8 fp7 fp0 (Or.inr ⟨(ow131 hw), rfl, hnm⟩) (ow110 hw) (ty := .int) own_fd0 rfl rfl (g := (mkF m 37 #[rv a1, iv p2, iv p3, rv a4, iv p5, .val .null] [(.int p5), (.ref a1)])) rfl rfl (hb hby d12_37)
  refine own_go st9 ?_
  clear st9 X8 e8
  replace N0 := Fr.snoc X9 N0 big_a1
  replace fp0 := fp0.wr W9
  replace fp1 := fp1.other W9 (.inr (own_sn8 hw).symm)
  replace fp2 := fp2.other W9 (.inr (own_sn15 hw).symm)
  replace fp3 := fp3.other W9 (.inr (own_sn21 hw).symm)
  replace fp4 := fp4.other W9 (.inr (own_sn26 hw).symm)
  replace fp5 := fp5.other W9 (.inr (own_sn30 hw).symm)
  replace fp6 := fp6.other W9 (.inr (own_sn33 hw).symm)
  replace fp7 := fp7.same W9
  replace fp8 := fp8.other W9 (.inr (own_sn36 hw))
  replace fp9 := fp9.other W9 (.inr (own_sn37 hw))
  replace O0 := own_oldWr O0 W9 big_a1
  replace K0 := K0.wr W9 (Or.inl (List.mem_of_getElem? (i := 0) rfl))
  clear W9
  refine own_go (fun _ k => XS.aloadN X9.here hx rfl (hb hby d12_40) rfl rfl k) ?_
  refine own_go (fun _ k => XS.aload X9.here hx rfl (hb hby d12_41) rfl rfl k) ?_
  obtain ⟨T10, h10, X10, e10, W10, st10⟩ := putF X9 hx hZ hown (host := "") (Or.inl (ow132 hw)) Via.refl e9 fp8 fp0 (Or.inr ⟨(ow133 hw), rfl, hnm⟩) (ow110 hw) (ty := (.object "com/example/nudo/nudo/VehicleClass")) own_fd3 rfl rfl (g := (mkF m 43 #[rv a1, iv p2, iv p3, rv a4, iv p5, .val .null] [.null, (.ref a1)])) rfl rfl (hb hby d12_43)
  refine own_go st10 ?_
  clear st10 X9 e9
  replace N0 := Fr.snoc X10 N0 big_a1
  replace fp0 := fp0.wr W10
  replace fp1 := fp1.other W10 (.inr (own_sn9 hw).symm)
  replace fp2 := fp2.other W10 (.inr (own_sn16 hw).symm)
  replace fp3 := fp3.other W10 (.inr (own_sn22 hw).symm)
  replace fp4 := fp4.other W10 (.inr (own_sn27 hw).symm)
  replace fp5 := fp5.other W10 (.inr (own_sn31 hw).symm)
  replace fp6 := fp6.other W10 (.inr (own_sn34 hw).symm)
  replace fp7 := fp7.other W10 (.inr (own_sn36 hw).symm)
  replace fp8 := fp8.same W10
  replace fp9 := fp9.other W10 (.inr (own_sn38 hw))
  replace O0 := own_oldWr O0 W10 big_a1
  replace K0 := K0.wr W10 (Or.inl (List.mem_of_getElem? (i := 0) rfl))
  clear W10
  refine own_go (fun _ k => XS.aloadN X10.here hx rfl (hb hby d12_46) rfl rfl k) ?_
  refine own_go (fun _ k => XS.aloadN X10.here hx rfl (hb hby d12_47) rfl rfl k) ?_
  show own_Go p e below s _ _ _ (T10.setTop (mkF m 48 #[rv a1, iv p2, iv p3, rv a4, iv p5, .val .null] [(.ref a4), (.ref a1)]))
  obtain ⟨cl11, Ar11, -, S11, M11, -, -⟩ := id (fp10.keep K0 (ninS ne1 nin0))
  refine own_go (X10.arraylength hx (by rw [e10]; exact Ar11.1) (State.isArrayOf_alike hZ.alike Ar11.2.1) (g := (mkF m 48 #[rv a1, iv p2, iv p3, rv a4, iv p5, .val .null] [(.ref a4), (.ref a1)])) rfl rfl (hb hby d12_48)) ?_
  rw [len_of S11 M11]
  obtain ⟨T12, h12, k12, X12, e12, E12, A12, st12⟩ := newP (aty := .int) X10 hx hZ (ow47 hw) e10 (g := (mkF m 49 #[rv a1, iv p2, iv p3, rv a4, iv p5, .val .null] [(.int (0 : Int32)), (.ref a1)])) rfl (hb hby d12_49) rfl (by decide) (cap := 0) (by decide) (by decide) (by show _ ≤ 1; omega) (by show _ ≤ 0; omega)
  obtain ⟨b12, g12⟩ : ∃ z, z = h10.size := ⟨_, rfl⟩
  rw [← g12] at A12 st12
  refine own_go st12 ?_
  clear st12 X10 e10
  have ge12 := Nat.le_of_eq g12.symm
  have ne13 : a1 ≠ b12 := Nat.ne_of_lt (Nat.lt_of_lt_of_le fp0.lt ge12)
  have big14 : Z.heap.size ≤ b12 := Nat.le_trans O0.1 ge12
  have sz15 : h0.size ≤ b12 := Nat.le_trans K0.1 ge12
  replace fp0 := fp0.ext E12
  replace fp1 := fp1.ext E12
  replace fp2 := fp2.ext E12
  replace fp3 := fp3.ext E12
  replace fp4 := fp4.ext E12
  replace fp5 := fp5.ext E12
  replace fp6 := fp6.ext E12
  replace fp7 := fp7.ext E12
  replace fp8 := fp8.ext E12
  replace fp9 := fp9.ext E12
  replace O0 := own_oldExt O0 E12
  replace K0 := K0.ext E12
  clear E12
  have f16 : Arv Z h12 b12 k12 .int (0 : Int32) [] (.int (0 : Int32)) := (Arv.new A12 (by decide)).pad (pad_rep [] (.int (0 : Int32)) 0)
  obtain ⟨T17, h17, X17, e17, W17, st17⟩ := putF X12 hx hZ hown (host := "") (Or.inl (ow134 hw)) Via.refl e12 fp9 fp0 (Or.inr ⟨(ow135 hw), rfl, hnm⟩) (ow110 hw) (ty := (.array .int)) own_fd4 rfl rfl (g := (mkF m 51 #[rv a1, iv p2, iv p3, rv a4, iv p5, .val .null] [(.ref b12), (.ref a1)])) rfl rfl (hb hby d12_51)
  refine own_go st17 ?_
  clear st17 X12 e12
  replace N0 := Fr.snoc X17 N0 big_a1
  replace fp0 := fp0.wr W17
  replace fp1 := fp1.other W17 (.inr (own_sn10 hw).symm)
  replace fp2 := fp2.other W17 (.inr (own_sn17 hw).symm)
  replace fp3 := fp3.other W17 (.inr (own_sn23 hw).symm)
  replace fp4 := fp4.other W17 (.inr (own_sn28 hw).symm)
  replace fp5 := fp5.other W17 (.inr (own_sn32 hw).symm)
  replace fp6 := fp6.other W17 (.inr (own_sn35 hw).symm)
  replace fp7 := fp7.other W17 (.inr (own_sn37 hw).symm)
  replace fp8 := fp8.other W17 (.inr (own_sn38 hw).symm)
  replace fp9 := fp9.same W17
  replace f16 := f16.other W17 ne13.symm
  replace O0 := own_oldWr O0 W17 big_a1
  replace K0 := K0.wr W17 (Or.inl (List.mem_of_getElem? (i := 0) rfl))
  clear W17
  refine own_go (fun _ k => XS.aloadN X17.here hx rfl (hb hby d12_54) rfl rfl k) ?_
  obtain ⟨T18, X18, e18, st18⟩ := getF X17 hx hZ hown (host := "") (Or.inl (ow134 hw)) Via.refl e17 fp9 (g := (mkF m 55 #[rv a1, iv p2, iv p3, rv a4, iv p5, .val .null] [(.ref a1)])) rfl rfl (hb hby d12_55)
  refine own_go st18 ?_
  clear st18 X17 e17
  refine own_go (fun _ k => XS.iconst X18.here hx rfl (hb hby d12_58) k) ?_
  obtain ⟨v19, T19, L19, X19, hQ19, st19⟩ := own_callS (y := (⟨"java/util/Arrays", "fill", "([II)V"⟩ : MethodName)) X18 hx hZ hown (ow136 hw) (ow137 hw) (ow138 hw) (ow139 hw) (rm_fill0 l Z a0 hw oDE oDV [] b12 (-1 : Int32) k12 h17 O0 f16) 0 0 0 (by show _ ≤ 1; omega) (by show _ ≤ 0; omega) e18 (g := (mkF m 59 #[rv a1, iv p2, iv p3, rv a4, iv p5, .val .null] [(.int (-1 : Int32)), (.ref b12)])) rfl (by rw [hml]; rfl) [(.ref b12), (.int (-1 : Int32))] [] (lenOf own_pd_5 rfl) rfl rfl (hb hby d12_59)
  obtain ⟨rfl, Nc21, Kc20⟩ := hQ19
  refine own_go st19 ?_
  clear st19 X18 e18
  replace N0 := Fr.app N0 Nc21
  clear Nc21
  show own_Go p e below s _ _ _ (T19.setTop (mkF m 62 #[rv a1, iv p2, iv p3, rv a4, iv p5, .val .null] []))
  refine own_retV X19 hx hlk Kc20 hret (hb hby d12_62) (by show _ ≤ 1; omega) (by show _ ≤ 0; omega) ?_
  exact ⟨b12, rfl, N0, K0, fp0, fp1, fp2, fp3, fp4, fp5, fp6, fp7, fp8, fp9⟩
theorem d14_0 : decode prog_49_method_17_code 0 = .ok (.aload_n 0, 1) := by decide +kernel
theorem d14_1 : decode prog_49_method_17_code 1 = .ok (.iload_n 1, 1) := by decide +kernel
theorem d14_2 : decode prog_49_method_17_code 2 = .ok (.putfield 16, 3) := by decide +kernel
theorem d14_5 : decode prog_49_method_17_code 5 = .ok (.return_, 1) := by decide +kernel
def Q_vexit (Z : State) (wd : Addr) (kd : ClassId) (a1 : Addr) (p2 : Int32) (xo : Int32) (tr : Int32) (rk : Int32) (pa : Addr) (dp : Int32) (les : Addr) (h0 : Heap) (v : Option Value) (h : Heap) (L : List Loc) : Prop := (v = none ∧ Fr Z.heap.size L ∧ Keep h0 h [a1] ∧ Exa Z h a1 "com/example/nudo/nudo/Vehicle" ∧ Fld Z h a1 "com/example/nudo/nudo/Vehicle" "position" "I" (.int (-1 : Int32)) ∧ Fld Z h a1 "com/example/nudo/nudo/Vehicle" "candidateStep" "I" (.int (-1 : Int32)) ∧ Fld Z h a1 "com/example/nudo/nudo/Vehicle" "exitStep" "I" (.int p2) ∧ Fld Z h a1 "com/example/nudo/nudo/Vehicle" "trip" "I" (.int tr) ∧ Fld Z h a1 "com/example/nudo/nudo/Vehicle" "rank" "I" (.int rk) ∧ Fld Z h a1 "com/example/nudo/nudo/Vehicle" "path" "[Lcom/example/nudo/nudo/CellLink;" (.ref pa) ∧ Fld Z h a1 "com/example/nudo/nudo/Vehicle" "departureStep" "I" (.int dp) ∧ Fld Z h a1 "com/example/nudo/nudo/Vehicle" "vehicleClass" "Lcom/example/nudo/nudo/VehicleClass;" .null ∧ Fld Z h a1 "com/example/nudo/nudo/Vehicle" "linkEntrySteps" "[I" (.ref les))
theorem ef_vexit (m : MethodId) (x0 : Addr) (x1 : Int32) : entryFrame m #[(.ref x0), (.int x1)] 2 = mkF m 0 #[rv x0, iv x1] [] := by first | (simp [entryFrame, mkF, argsToLocals, Value.category]; done) | rfl
set_option maxRecDepth 65536 in
set_option maxHeartbeats 40000000 in
theorem rm_vexit (l : Launch) (Z : State) (a0 : Array Value) (hw : ∀ d ∈ tables_1, d.before a0 Z = true) {wd : Addr} {kd : ClassId} (oDE : Sta Z Z.heap "java/util/ArrayList" "DEFAULTCAPACITY_EMPTY_ELEMENTDATA" "[Ljava/lang/Object;" (.ref wd)) (oDV : Arv Z Z.heap wd kd (.object "java/lang/Object") (0 : Int32) [] .null) (ws : List Jvm.Cond) (a1 : Addr) (p2 : Int32) (xo : Int32) (tr : Int32) (rk : Int32) (pa : Addr) (dp : Int32) (les : Addr) (h0 : Heap) (O0 : Ext Z.heap h0) (fp0 : Exa Z h0 a1 "com/example/nudo/nudo/Vehicle") (fp1 : Fld Z h0 a1 "com/example/nudo/nudo/Vehicle" "position" "I" (.int (-1 : Int32))) (fp2 : Fld Z h0 a1 "com/example/nudo/nudo/Vehicle" "candidateStep" "I" (.int (-1 : Int32))) (fp3 : Fld Z h0 a1 "com/example/nudo/nudo/Vehicle" "exitStep" "I" (.int xo)) (fp4 : Fld Z h0 a1 "com/example/nudo/nudo/Vehicle" "trip" "I" (.int tr)) (fp5 : Fld Z h0 a1 "com/example/nudo/nudo/Vehicle" "rank" "I" (.int rk)) (fp6 : Fld Z h0 a1 "com/example/nudo/nudo/Vehicle" "path" "[Lcom/example/nudo/nudo/CellLink;" (.ref pa)) (fp7 : Fld Z h0 a1 "com/example/nudo/nudo/Vehicle" "departureStep" "I" (.int dp)) (fp8 : Fld Z h0 a1 "com/example/nudo/nudo/Vehicle" "vehicleClass" "Lcom/example/nudo/nudo/VehicleClass;" .null) (fp9 : Fld Z h0 a1 "com/example/nudo/nudo/Vehicle" "linkEntrySteps" "[I" (.ref les)) (big_a1 : Z.heap.size ≤ a1) :
    own_MF l Z h0 (⟨"com/example/nudo/nudo/Vehicle", "exit", "(I)V"⟩ : MethodName) prog_49_method_17_code 2 none ({ frames := 0, cells := 0, slots := 0, locals := 0 } : Room) #[(.ref a1), (.int p2)] (Q_vexit Z wd kd a1 p2 xo tr rk pa dp les h0) ws := by
  refine own_met (Q := (Q_vexit Z wd kd a1 p2 xo tr rk pa dp les h0)) _ _ (plainFor_of_name own_pn_4) ?_
  intro p e s m below meth c T X0 hx hby hml hret hlk hZ hown hnm e0
  replace hown : s.vm.findClass "com/example/nudo/nudo/Vehicle" = some m.cls := hown
  replace hnm : meth.name = "exit" := hnm
  have hml : c.maxLocals = 2 := hml
  have N0 := Fr.nil Z.heap.size
  have K0 := Keep.refl h0 [a1]
  refine own_go (fun _ k => castTop (ef_vexit m a1 p2) k) ?_
  show own_Go p e below s _ _ _ (T.setTop (mkF m 0 #[rv a1, iv p2] []))
  refine own_go (fun _ k => XS.aloadN X0.here hx rfl (hb hby d14_0) rfl rfl k) ?_
  refine own_go (fun _ k => XS.iloadN X0.here hx rfl (hb hby d14_1) rfl k) ?_
  obtain ⟨T1, h1, X1, e1, W1, st1⟩ := putF X0 hx hZ hown (host := "") (Or.inl (ow122 hw)) Via.refl e0 fp3 fp0 (Or.inl (ow123 hw)) (ow110 hw) (ty := .int) own_fd0 rfl rfl (g := (mkF m 2 #[rv a1, iv p2] [(.int p2), (.ref a1)])) rfl rfl (hb hby d14_2)
  refine own_go st1 ?_
  clear st1 X0 e0
  replace N0 := Fr.snoc X1 N0 big_a1
  replace fp0 := fp0.wr W1
  replace fp1 := fp1.other W1 (.inr (own_sn4 hw).symm)
  replace fp2 := fp2.other W1 (.inr (own_sn11 hw).symm)
  replace fp3 := fp3.same W1
  replace fp4 := fp4.other W1 (.inr (own_sn18 hw))
  replace fp5 := fp5.other W1 (.inr (own_sn19 hw))
  replace fp6 := fp6.other W1 (.inr (own_sn20 hw))
  replace fp7 := fp7.other W1 (.inr (own_sn21 hw))
  replace fp8 := fp8.other W1 (.inr (own_sn22 hw))
  replace fp9 := fp9.other W1 (.inr (own_sn23 hw))
  replace O0 := own_oldWr O0 W1 big_a1
  replace K0 := K0.wr W1 (Or.inl (List.mem_of_getElem? (i := 0) rfl))
  clear W1
  show own_Go p e below s _ _ _ (T1.setTop (mkF m 5 #[rv a1, iv p2] []))
  refine own_retV X1 hx hlk e1 hret (hb hby d14_5) (by show _ ≤ 0; omega) (by show _ ≤ 0; omega) ?_
  exact ⟨rfl, N0, K0, fp0, fp1, fp2, fp3, fp4, fp5, fp6, fp7, fp8, fp9⟩
theorem d11_0 : decode method_2_code 0 = .ok (.new 7, 3) := by decide +kernel
theorem d11_3 : decode method_2_code 3 = .ok (.dup, 1) := by decide +kernel
theorem d11_4 : decode method_2_code 4 = .ok (.iload_n 0, 1) := by decide +kernel
theorem d11_5 : decode method_2_code 5 = .ok (.iload_n 0, 1) := by decide +kernel
theorem d11_6 : decode method_2_code 6 = .ok (.iconst 0, 1) := by decide +kernel
theorem d11_7 : decode method_2_code 7 = .ok (.anewarray 9, 3) := by decide +kernel
theorem d11_10 : decode method_2_code 10 = .ok (.iload_n 2, 1) := by decide +kernel
theorem d11_11 : decode method_2_code 11 = .ok (.aconst_null, 1) := by decide +kernel
theorem d11_12 : decode method_2_code 12 = .ok (.invokespecial 11, 3) := by decide +kernel
theorem d11_15 : decode method_2_code 15 = .ok (.astore 4, 2) := by decide +kernel
theorem d11_17 : decode method_2_code 17 = .ok (.iload_n 1, 1) := by decide +kernel
theorem d11_18 : decode method_2_code 18 = .ok (.ifCond .ne 9, 3) := by decide +kernel
theorem d11_21 : decode method_2_code 21 = .ok (.aload 4, 2) := by decide +kernel
theorem d11_23 : decode method_2_code 23 = .ok (.iload_n 3, 1) := by decide +kernel
theorem d11_24 : decode method_2_code 24 = .ok (.invokevirtual 14, 3) := by decide +kernel
theorem d11_27 : decode method_2_code 27 = .ok (.aload 4, 2) := by decide +kernel
theorem d11_29 : decode method_2_code 29 = .ok (.areturn, 1) := by decide +kernel
def Q_make (Z : State) (wd : Addr) (kd : ClassId) (p1 : Int32) (p2 : Int32) (p3 : Int32) (p4 : Int32) (h0 : Heap) (v : Option Value) (h : Heap) (L : List Loc) : Prop := (∃ b : Addr, ∃ pa : Addr, ∃ k : ClassId, v = some (.ref b) ∧ Fr Z.heap.size L ∧ p2 = (0 : Int32) ∧ Keep h0 h [] ∧ h0.size ≤ b ∧ h0.size ≤ pa ∧ Exa Z h b "com/example/nudo/nudo/Vehicle" ∧ Fld Z h b "com/example/nudo/nudo/Vehicle" "position" "I" (.int (-1 : Int32)) ∧ Fld Z h b "com/example/nudo/nudo/Vehicle" "exitStep" "I" (.int p4) ∧ Fld Z h b "com/example/nudo/nudo/Vehicle" "trip" "I" (.int p1) ∧ Fld Z h b "com/example/nudo/nudo/Vehicle" "path" "[Lcom/example/nudo/nudo/CellLink;" (.ref pa) ∧ Fld Z h b "com/example/nudo/nudo/Vehicle" "departureStep" "I" (.int p3) ∧ Arv Z h pa k (.object "com/example/nudo/nudo/CellLink") (0 : Int32) [] .null) ∨ (∃ b : Addr, ∃ pa : Addr, ∃ k : ClassId, v = some (.ref b) ∧ Fr Z.heap.size L ∧ ¬ (p2 = (0 : Int32)) ∧ Keep h0 h [] ∧ h0.size ≤ b ∧ h0.size ≤ pa ∧ Exa Z h b "com/example/nudo/nudo/Vehicle" ∧ Fld Z h b "com/example/nudo/nudo/Vehicle" "position" "I" (.int (-1 : Int32)) ∧ Fld Z h b "com/example/nudo/nudo/Vehicle" "exitStep" "I" (.int (-1 : Int32)) ∧ Fld Z h b "com/example/nudo/nudo/Vehicle" "trip" "I" (.int p1) ∧ Fld Z h b "com/example/nudo/nudo/Vehicle" "path" "[Lcom/example/nudo/nudo/CellLink;" (.ref pa) ∧ Fld Z h b "com/example/nudo/nudo/Vehicle" "departureStep" "I" (.int p3) ∧ Arv Z h pa k (.object "com/example/nudo/nudo/CellLink") (0 : Int32) [] .null)
theorem ef_make (m : MethodId) (x0 : Int32) (x1 : Int32) (x2 : Int32) (x3 : Int32) : entryFrame m #[(.int x0), (.int x1), (.int x2), (.int x3)] 5 = mkF m 0 #[iv x0, iv x1, iv x2, iv x3, .unset] [] := by first | (simp [entryFrame, mkF, argsToLocals, Value.category]; done) | rfl
set_option maxRecDepth 65536 in
set_option maxHeartbeats 40000000 in
theorem rm_make (l : Launch) (Z : State) (a0 : Array Value) (hw : ∀ d ∈ tables_1, d.before a0 Z = true) {wd : Addr} {kd : ClassId} (oDE : Sta Z Z.heap "java/util/ArrayList" "DEFAULTCAPACITY_EMPTY_ELEMENTDATA" "[Ljava/lang/Object;" (.ref wd)) (oDV : Arv Z Z.heap wd kd (.object "java/lang/Object") (0 : Int32) [] .null) (ws : List Jvm.Cond) (p1 : Int32) (p2 : Int32) (p3 : Int32) (p4 : Int32) (h0 : Heap) (O0 : Ext Z.heap h0) :
    own_MF l Z h0 (⟨"com/example/nudo/nudo/LoadingResultVehiclesExitedPinLaw", "make", "(IIII)Lcom/example/nudo/nudo/Vehicle;"⟩ : MethodName) method_2_code 5 (some (.object "com/example/nudo/nudo/Vehicle")) ({ frames := 2, cells := 3, slots := 10, locals := 33 } : Room) #[(.int p1), (.int p2), (.int p3), (.int p4)] (Q_make Z wd kd p1 p2 p3 p4 h0) ws := by
  refine own_met (Q := (Q_make Z wd kd p1 p2 p3 p4 h0)) _ _ (plainFor_of_name own_pn_5) ?_
  intro p e s m below meth c T X0 hx hby hml hret hlk hZ hown hnm e0
  replace hown : s.vm.findClass "com/example/nudo/nudo/LoadingResultVehiclesExitedPinLaw" = some m.cls := hown
  replace hnm : meth.name = "make" := hnm
  have hml : c.maxLocals = 5 := hml
  have N0 := Fr.nil Z.heap.size
  have K0 := Keep.refl h0 []
  refine own_go (fun _ k => castTop (ef_make m p1 p2 p3 p4) k) ?_
  show own_Go p e below s _ _ _ (T.setTop (mkF m 0 #[iv p1, iv p2, iv p3, iv p4, .unset] []))
  obtain ⟨T1, h1, X1, e1, E1, A1, D1, -, st1⟩ := newO X0 hx hZ hown (ow109 hw) (ow110 hw) (ow111 hw) e0 (g := (mkF m 0 #[iv p1, iv p2, iv p3, iv p4, .unset] [])) rfl (hb hby d11_0) (by show _ ≤ 3; omega) (by show _ ≤ 10; omega)
  obtain ⟨b1, g1⟩ : ∃ z, z = h0.size := ⟨_, rfl⟩
  rw [← g1] at A1 D1 st1
  refine own_go st1 ?_
  clear st1 X0 e0
  have ge1 := Nat.le_of_eq g1.symm
  have big2 : Z.heap.size ≤ b1 := Nat.le_trans O0.1 ge1
  have sz3 : h0.size ≤ b1 := Nat.le_trans K0.1 ge1
  replace O0 := own_oldExt O0 E1
  replace K0 := K0.ext E1
  clear E1
  have f4 : Fld Z h1 b1 "com/example/nudo/nudo/Vehicle" "position" "I" (.int (0 : Int32)) := D1 (Or.inl (ow119 hw)) (ty := .int) own_fd0
  have f5 : Fld Z h1 b1 "com/example/nudo/nudo/Vehicle" "candidateStep" "I" (.int (0 : Int32)) := D1 (Or.inl (ow121 hw)) (ty := .int) own_fd0
  have f6 : Fld Z h1 b1 "com/example/nudo/nudo/Vehicle" "exitStep" "I" (.int (0 : Int32)) := D1 (Or.inl (ow123 hw)) (ty := .int) own_fd0
  have f7 : Fld Z h1 b1 "com/example/nudo/nudo/Vehicle" "trip" "I" (.int (0 : Int32)) := D1 (Or.inr (ow125 hw)) (ty := .int) own_fd0
  have f8 : Fld Z h1 b1 "com/example/nudo/nudo/Vehicle" "rank" "I" (.int (0 : Int32)) := D1 (Or.inr (ow127 hw)) (ty := .int) own_fd0
  have f9 : Fld Z h1 b1 "com/example/nudo/nudo/Vehicle" "path" "[Lcom/example/nudo/nudo/CellLink;" .null := D1 (Or.inr (ow129 hw)) (ty := (.array (.object "com/example/nudo/nudo/CellLink"))) own_fd2
  have f10 : Fld Z h1 b1 "com/example/nudo/nudo/Vehicle" "departureStep" "I" (.int (0 : Int32)) := D1 (Or.inr (ow131 hw)) (ty := .int) own_fd0
  have f11 : Fld Z h1 b1 "com/example/nudo/nudo/Vehicle" "vehicleClass" "Lcom/example/nudo/nudo/VehicleClass;" .null := D1 (Or.inr (ow133 hw)) (ty := (.object "com/example/nudo/nudo/VehicleClass")) own_fd3
  have f12 : Fld Z h1 b1 "com/example/nudo/nudo/Vehicle" "linkEntrySteps" "[I" .null := D1 (Or.inr (ow135 hw)) (ty := (.array .int)) own_fd4
  refine own_go (fun _ k => XS.dup X1.here hx rfl (hb hby d11_3) rfl rfl k) ?_
  refine own_go (fun _ k => XS.iloadN X1.here hx rfl (hb hby d11_4) rfl k) ?_
  refine own_go (fun _ k => XS.iloadN X1.here hx rfl (hb hby d11_5) rfl k) ?_
  refine own_go (fun _ k => XS.iconst X1.here hx rfl (hb hby d11_6) k) ?_
  obtain ⟨T13, h13, k13, X13, e13, E13, A13, O13, st13⟩ := newR X1 hx hZ hown (ow112 hw) (ow113 hw) e1 (g := (mkF m 7 #[iv p1, iv p2, iv p3, iv p4, .unset] [(.int (0 : Int32)), (.int p1), (.int p1), (.ref b1), (.ref b1)])) rfl (hb hby d11_7) rfl (by decide) (cap := 0) (by decide) (by decide) (by show _ ≤ 3; omega) (by show _ ≤ 10; omega)
  obtain ⟨b13, g13⟩ : ∃ z, z = h1.size := ⟨_, rfl⟩
  rw [← g13] at A13 st13
  refine own_go st13 ?_
  clear st13 X1 e1
  have ge13 := Nat.le_of_eq g13.symm
  have ne14 : b1 ≠ b13 := Nat.ne_of_lt (Nat.lt_of_lt_of_le A1.lt ge13)
  have big15 : Z.heap.size ≤ b13 := Nat.le_trans O0.1 ge13
  have sz16 : h0.size ≤ b13 := Nat.le_trans K0.1 ge13
  replace A1 := A1.ext E13
  replace f4 := f4.ext E13
  replace f5 := f5.ext E13
  replace f6 := f6.ext E13
  replace f7 := f7.ext E13
  replace f8 := f8.ext E13
  replace f9 := f9.ext E13
  replace f10 := f10.ext E13
  replace f11 := f11.ext E13
  replace f12 := f12.ext E13
  replace O0 := own_oldExt O0 E13
  replace K0 := K0.ext E13
  clear E13
  have f17 : Arv Z h13 b13 k13 (.object "com/example/nudo/nudo/CellLink") (0 : Int32) [] .null := (Arv.new A13 (by decide)).pad (pad_rep [] .null 0)
  refine own_go (fun _ k => XS.iloadN X13.here hx rfl (hb hby d11_10) rfl k) ?_
  show own_Go p e below s _ _ _ (T13.setTop (mkF m 11 #[iv p1, iv p2, iv p3, iv p4, .unset] [(.int p3), (.ref b13), (.int p1), (.int p1), (.ref b1), (.ref b1)]))
  refine own_go (fun _ k => XS.aconstNull X13.here hx rfl (hb hby d11_11) k) ?_
  obtain ⟨v18, T18, L18, X18, hQ18, st18⟩ := own_callI (y := (⟨"com/example/nudo/nudo/Vehicle", "<init>", "(II[Lcom/example/nudo/nudo/CellLink;ILcom/example/nudo/nudo/VehicleClass;)V"⟩ : MethodName)) X13 hx hZ hown (ow114 hw) (ow115 hw) (ow111 hw) (ow116 hw) (rm_vinit l Z a0 hw oDE oDV [] b1 p1 p1 b13 p3 k13 h13 O0 A1 f4 f5 f6 f7 f8 f9 f10 f11 f12 f17 big2) 1 1 0 rfl (by show _ ≤ 3; omega) (by show _ ≤ 10; omega) e13 (g := (mkF m 12 #[iv p1, iv p2, iv p3, iv p4, .unset] [.null, (.int p3), (.ref b13), (.int p1), (.int p1), (.ref b1), (.ref b1)])) rfl (by rw [hml]; rfl) b1 [(.int p1), (.int p1), (.ref b13), (.int p3), .null] [(.ref b1)] (lenOf own_pd_6 rfl) rfl rfl (hb hby d11_12)
  obtain ⟨w19, rfl, Nc31, Kc30, f20, f21, f22, f23, f24, f25, f26, f27, f28, f29⟩ := hQ18
  refine own_go st18 ?_
  clear st18 X13 e13
  replace N0 := Fr.app N0 Nc31
  clear Nc31
  replace A1 := A1.keep Kc30
  clear f4
  clear f5
  clear f6
  clear f7
  clear f8
  clear f9
  clear f10
  clear f11
  clear f12
  replace f17 := f17.keep Kc30 (ninS ne14.symm nin0)
  replace O0 := own_oldKeep O0 Kc30 (allS big2 all0)
  replace K0 := K0.trans Kc30 (allS (Or.inr sz3) all0)
  clear Kc30
  refine own_go (fun _ k => XS.astore X18.here hx rfl (hb hby d11_15) rfl rfl (l' := #[iv p1, iv p2, iv p3, iv p4, rv b1]) rfl k) ?_
  refine own_go (fun _ k => XS.iloadN X18.here hx rfl (hb hby d11_17) rfl k) ?_
  by_cases hc32 : p2 = (0 : Int32)
  · refine own_go (fun _ k => XS.ifNo X18.here hx rfl (hb hby d11_18) rfl ((if0 _ _).trans (teq hc32).2) k) ?_
    show own_Go p e below s _ _ _ (T18.setTop (mkF m 21 #[iv p1, iv p2, iv p3, iv p4, rv b1] []))
    refine own_go (fun _ k => XS.aload X18.here hx rfl (hb hby d11_21) rfl rfl k) ?_
    refine own_go (fun _ k => XS.iloadN X18.here hx rfl (hb hby d11_23) rfl k) ?_
    obtain ⟨v33, T33, L33, X33, hQ33, st33⟩ := own_callV (y := (⟨"com/example/nudo/nudo/Vehicle", "exit", "(I)V"⟩ : MethodName)) (z := (⟨"com/example/nudo/nudo/Vehicle", "exit", "(I)V"⟩ : MethodName)) X18 hx hZ hown (ow140 hw) (ow141 hw) (notFace_of_selects (args := #[]) (mvT hZ (ow143 hw))) (ow143 hw) (ow142 hw) (ow111 hw) (ow144 hw) (rm_vexit l Z a0 hw oDE oDV [] b1 p4 (-1 : Int32) p1 p1 b13 p3 w19 T18.heap O0 f20 f21 f22 f23 f24 f25 f26 f27 f28 f29 big2) 0 0 0 (by show _ ≤ 3; omega) (by show _ ≤ 10; omega) (rfl : T18.heap = T18.heap) f20 (g := (mkF m 24 #[iv p1, iv p2, iv p3, iv p4, rv b1] [(.int p4), (.ref b1)])) rfl (by rw [hml]; rfl) [(.int p4)] [] (lenOf own_pd_7 rfl) rfl rfl (hb hby d11_24)
    obtain ⟨rfl, Nc45, Kc44, f34, f35, f36, f37, f38, f39, f40, f41, f42, f43⟩ := hQ33
    refine own_go st33 ?_
    clear st33 X18
    replace N0 := Fr.app N0 Nc45
    clear Nc45
    replace f20 := f20.keep Kc44
    replace f17 := f17.keep Kc44 (ninS ne14.symm nin0)
    clear f21
    clear f22
    clear f23
    clear f24
    clear f25
    clear f26
    clear f27
    clear f28
    clear f29
    replace O0 := own_oldKeep O0 Kc44 (allS big2 all0)
    replace K0 := K0.trans Kc44 (allS (Or.inr sz3) all0)
    clear Kc44
    refine own_go (fun _ k => XS.aload X33.here hx rfl (hb hby d11_27) rfl rfl k) ?_
    show own_Go p e below s _ _ _ (T33.setTop (mkF m 29 #[iv p1, iv p2, iv p3, iv p4, rv b1] [(.ref b1)]))
    refine own_retA X33 hx hlk (rfl : T33.heap = T33.heap) hret rfl rfl (hb hby d11_29) (by show _ ≤ 3; omega) (by show _ ≤ 10; omega) ?_
    exact Or.inl ⟨b1, b13, k13, rfl, N0, hc32, K0, sz3, sz16, f34, f35, f37, f38, f40, f41, f17⟩
  · refine own_go (fun _ k => XS.ifYes X18.here hx rfl (pc0 := 18) (pc' := 27) rfl (hb hby d11_18) rfl ((if0 _ _).trans (feq hc32).2) (by decide) (by decide) k) ?_
    show own_Go p e below s _ _ _ (T18.setTop (mkF m 27 #[iv p1, iv p2, iv p3, iv p4, rv b1] []))
    refine own_go (fun _ k => XS.aload X18.here hx rfl (hb hby d11_27) rfl rfl k) ?_
    show own_Go p e below s _ _ _ (T18.setTop (mkF m 29 #[iv p1, iv p2, iv p3, iv p4, rv b1] [(.ref b1)]))
    refine own_retA X18 hx hlk (rfl : T18.heap = T18.heap) hret rfl rfl (hb hby d11_29) (by show _ ≤ 3; omega) (by show _ ≤ 10; omega) ?_
    exact Or.inr (⟨b1, b13, k13, rfl, N0, hc32, K0, sz3, sz16, f20, f21, f23, f24, f26, f27, f17⟩)
theorem d20_0 : decode method_3_code 0 = .ok (.iload_n 0, 1) := by decide +kernel
theorem d20_1 : decode method_3_code 1 = .ok (.ifCond .eq 7, 3) := by decide +kernel
theorem d20_8 : decode method_3_code 8 = .ok (.iconst 0, 1) := by decide +kernel
theorem d20_9 : decode method_3_code 9 = .ok (.ireturn, 1) := by decide +kernel
def Q_is0 (Z : State) (wd : Addr) (kd : ClassId) (h0 : Heap) (v : Option Value) (h : Heap) (L : List Loc) : Prop := (v = some (.int (0 : Int32)) ∧ Fr Z.heap.size L ∧ h = h0)
theorem ef_is0 (m : MethodId) : entryFrame m #[(.int (0 : Int32))] 1 = mkF m 0 #[iv (0 : Int32)] [] := by first | (simp [entryFrame, mkF, argsToLocals, Value.category]; done) | rfl
set_option maxRecDepth 65536 in
set_option maxHeartbeats 40000000 in
theorem rm_is0 (l : Launch) (Z : State) (a0 : Array Value) (hw : ∀ d ∈ tables_1, d.before a0 Z = true) {wd : Addr} {kd : ClassId} (oDE : Sta Z Z.heap "java/util/ArrayList" "DEFAULTCAPACITY_EMPTY_ELEMENTDATA" "[Ljava/lang/Object;" (.ref wd)) (oDV : Arv Z Z.heap wd kd (.object "java/lang/Object") (0 : Int32) [] .null) (ws : List Jvm.Cond)  (h0 : Heap) (O0 : Ext Z.heap h0) :
    own_MF l Z h0 (⟨"com/example/nudo/nudo/LoadingResultVehiclesExitedPinLaw", "is", "(Z)I"⟩ : MethodName) method_3_code 1 (some .int) ({ frames := 0, cells := 0, slots := 0, locals := 0 } : Room) #[(.int (0 : Int32))] (Q_is0 Z wd kd h0) ws := by
  refine own_met (Q := (Q_is0 Z wd kd h0)) _ _ (plainFor_of_name own_pn_5) ?_
  intro p e s m below meth c T X0 hx hby hml hret hlk hZ hown hnm e0
  replace hown : s.vm.findClass "com/example/nudo/nudo/LoadingResultVehiclesExitedPinLaw" = some m.cls := hown
  replace hnm : meth.name = "is" := hnm
  have hml : c.maxLocals = 1 := hml
  have N0 := Fr.nil Z.heap.size
  have K0 := Keep.refl h0 []
  refine own_go (fun _ k => castTop (ef_is0 m ) k) ?_
  show own_Go p e below s _ _ _ (T.setTop (mkF m 0 #[iv (0 : Int32)] []))
  refine own_go (fun _ k => XS.iloadN X0.here hx rfl (hb hby d20_0) rfl k) ?_
  refine own_go (fun _ k => XS.ifYes X0.here hx rfl (pc0 := 1) (pc' := 8) rfl (hb hby d20_1) rfl ((if0 _ _).trans (teq (by decide : (0 : Int32) = (0 : Int32))).1) (by decide) (by decide) k) ?_
  refine own_go (fun _ k => XS.iconst X0.here hx rfl (hb hby d20_8) k) ?_
  show own_Go p e below s _ _ _ (T.setTop (mkF m 9 #[iv (0 : Int32)] [(.int (0 : Int32))]))
  refine own_retI X0 hx hlk e0 hret (hb hby d20_9) (by show _ ≤ 0; omega) (by show _ ≤ 0; omega) ?_
  exact ⟨rfl, N0, rfl⟩
theorem d20_4 : decode method_3_code 4 = .ok (.iconst 1, 1) := by decide +kernel
theorem d20_5 : decode method_3_code 5 = .ok (.goto 4, 3) := by decide +kernel
def Q_is1 (Z : State) (wd : Addr) (kd : ClassId) (h0 : Heap) (v : Option Value) (h : Heap) (L : List Loc) : Prop := (v = some (.int (1 : Int32)) ∧ Fr Z.heap.size L ∧ h = h0)
theorem ef_is1 (m : MethodId) : entryFrame m #[(.int (1 : Int32))] 1 = mkF m 0 #[iv (1 : Int32)] [] := by first | (simp [entryFrame, mkF, argsToLocals, Value.category]; done) | rfl
set_option maxRecDepth 65536 in
set_option maxHeartbeats 40000000 in
theorem rm_is1 (l : Launch) (Z : State) (a0 : Array Value) (hw : ∀ d ∈ tables_1, d.before a0 Z = true) {wd : Addr} {kd : ClassId} (oDE : Sta Z Z.heap "java/util/ArrayList" "DEFAULTCAPACITY_EMPTY_ELEMENTDATA" "[Ljava/lang/Object;" (.ref wd)) (oDV : Arv Z Z.heap wd kd (.object "java/lang/Object") (0 : Int32) [] .null) (ws : List Jvm.Cond)  (h0 : Heap) (O0 : Ext Z.heap h0) :
    own_MF l Z h0 (⟨"com/example/nudo/nudo/LoadingResultVehiclesExitedPinLaw", "is", "(Z)I"⟩ : MethodName) method_3_code 1 (some .int) ({ frames := 0, cells := 0, slots := 0, locals := 0 } : Room) #[(.int (1 : Int32))] (Q_is1 Z wd kd h0) ws := by
  refine own_met (Q := (Q_is1 Z wd kd h0)) _ _ (plainFor_of_name own_pn_5) ?_
  intro p e s m below meth c T X0 hx hby hml hret hlk hZ hown hnm e0
  replace hown : s.vm.findClass "com/example/nudo/nudo/LoadingResultVehiclesExitedPinLaw" = some m.cls := hown
  replace hnm : meth.name = "is" := hnm
  have hml : c.maxLocals = 1 := hml
  have N0 := Fr.nil Z.heap.size
  have K0 := Keep.refl h0 []
  refine own_go (fun _ k => castTop (ef_is1 m ) k) ?_
  show own_Go p e below s _ _ _ (T.setTop (mkF m 0 #[iv (1 : Int32)] []))
  refine own_go (fun _ k => XS.iloadN X0.here hx rfl (hb hby d20_0) rfl k) ?_
  refine own_go (fun _ k => XS.ifNo X0.here hx rfl (hb hby d20_1) rfl ((if0 _ _).trans (feq (by decide : ¬ ((1 : Int32) = (0 : Int32)))).1) k) ?_
  refine own_go (fun _ k => XS.iconst X0.here hx rfl (hb hby d20_4) k) ?_
  refine own_go (fun _ k => XS.goto X0.here hx rfl (pc0 := 5) (pc' := 9) rfl (hb hby d20_5) (by decide) (by decide) k) ?_
  show own_Go p e below s _ _ _ (T.setTop (mkF m 9 #[iv (1 : Int32)] [(.int (1 : Int32))]))
  refine own_retI X0 hx hlk e0 hret (hb hby d20_9) (by show _ ≤ 0; omega) (by show _ ≤ 0; omega) ?_
  exact ⟨rfl, N0, rfl⟩
theorem d23_0 : decode prog_49_method_2_code 0 = .ok (.aload_n 0, 1) := by decide +kernel
theorem d23_1 : decode prog_49_method_2_code 1 = .ok (.getfield 19, 3) := by decide +kernel
theorem d23_4 : decode prog_49_method_2_code 4 = .ok (.ireturn, 1) := by decide +kernel
def Q_vtrip (Z : State) (wd : Addr) (kd : ClassId) (a1 : Addr) (w : Int32) (h0 : Heap) (v : Option Value) (h : Heap) (L : List Loc) : Prop := (v = some (.int w) ∧ Fr Z.heap.size L ∧ h = h0)
theorem ef_vtrip (m : MethodId) (x0 : Addr) : entryFrame m #[(.ref x0)] 1 = mkF m 0 #[rv x0] [] := by first | (simp [entryFrame, mkF, argsToLocals, Value.category]; done) | rfl
set_option maxRecDepth 65536 in
set_option maxHeartbeats 40000000 in
theorem rm_vtrip (l : Launch) (Z : State) (a0 : Array Value) (hw : ∀ d ∈ tables_1, d.before a0 Z = true) {wd : Addr} {kd : ClassId} (oDE : Sta Z Z.heap "java/util/ArrayList" "DEFAULTCAPACITY_EMPTY_ELEMENTDATA" "[Ljava/lang/Object;" (.ref wd)) (oDV : Arv Z Z.heap wd kd (.object "java/lang/Object") (0 : Int32) [] .null) (ws : List Jvm.Cond) (a1 : Addr) (w : Int32) (h0 : Heap) (O0 : Ext Z.heap h0) (fp0 : Fld Z h0 a1 "com/example/nudo/nudo/Vehicle" "trip" "I" (.int w)) :
    own_MF l Z h0 (⟨"com/example/nudo/nudo/Vehicle", "trip", "()I"⟩ : MethodName) prog_49_method_2_code 1 (some .int) ({ frames := 0, cells := 0, slots := 0, locals := 0 } : Room) #[(.ref a1)] (Q_vtrip Z wd kd a1 w h0) ws := by
  refine own_met (Q := (Q_vtrip Z wd kd a1 w h0)) _ _ (plainFor_of_name own_pn_4) ?_
  intro p e s m below meth c T X0 hx hby hml hret hlk hZ hown hnm e0
  replace hown : s.vm.findClass "com/example/nudo/nudo/Vehicle" = some m.cls := hown
  replace hnm : meth.name = "trip" := hnm
  have hml : c.maxLocals = 1 := hml
  have N0 := Fr.nil Z.heap.size
  have K0 := Keep.refl h0 []
  refine own_go (fun _ k => castTop (ef_vtrip m a1) k) ?_
  show own_Go p e below s _ _ _ (T.setTop (mkF m 0 #[rv a1] []))
  refine own_go (fun _ k => XS.aloadN X0.here hx rfl (hb hby d23_0) rfl rfl k) ?_
  obtain ⟨T1, X1, e1, st1⟩ := getF X0 hx hZ hown (host := "") (Or.inl (ow124 hw)) Via.refl e0 (fp0.keep K0 nin0) (g := (mkF m 1 #[rv a1] [(.ref a1)])) rfl rfl (hb hby d23_1)
  refine own_go st1 ?_
  clear st1 X0 e0
  show own_Go p e below s _ _ _ (T1.setTop (mkF m 4 #[rv a1] [(.int w)]))
  refine own_retI X1 hx hlk e1 hret (hb hby d23_4) (by show _ ≤ 0; omega) (by show _ ≤ 0; omega) ?_
  exact ⟨rfl, N0, rfl⟩
theorem d24_0 : decode prog_49_method_4_code 0 = .ok (.aload_n 0, 1) := by decide +kernel
theorem d24_1 : decode prog_49_method_4_code 1 = .ok (.getfield 29, 3) := by decide +kernel
theorem d24_4 : decode prog_49_method_4_code 4 = .ok (.ireturn, 1) := by decide +kernel
def Q_vdepartureStep (Z : State) (wd : Addr) (kd : ClassId) (a1 : Addr) (w : Int32) (h0 : Heap) (v : Option Value) (h : Heap) (L : List Loc) : Prop := (v = some (.int w) ∧ Fr Z.heap.size L ∧ h = h0)
theorem ef_vdepartureStep (m : MethodId) (x0 : Addr) : entryFrame m #[(.ref x0)] 1 = mkF m 0 #[rv x0] [] := by first | (simp [entryFrame, mkF, argsToLocals, Value.category]; done) | rfl
set_option maxRecDepth 65536 in
set_option maxHeartbeats 40000000 in
theorem rm_vdepartureStep (l : Launch) (Z : State) (a0 : Array Value) (hw : ∀ d ∈ tables_1, d.before a0 Z = true) {wd : Addr} {kd : ClassId} (oDE : Sta Z Z.heap "java/util/ArrayList" "DEFAULTCAPACITY_EMPTY_ELEMENTDATA" "[Ljava/lang/Object;" (.ref wd)) (oDV : Arv Z Z.heap wd kd (.object "java/lang/Object") (0 : Int32) [] .null) (ws : List Jvm.Cond) (a1 : Addr) (w : Int32) (h0 : Heap) (O0 : Ext Z.heap h0) (fp0 : Fld Z h0 a1 "com/example/nudo/nudo/Vehicle" "departureStep" "I" (.int w)) :
    own_MF l Z h0 (⟨"com/example/nudo/nudo/Vehicle", "departureStep", "()I"⟩ : MethodName) prog_49_method_4_code 1 (some .int) ({ frames := 0, cells := 0, slots := 0, locals := 0 } : Room) #[(.ref a1)] (Q_vdepartureStep Z wd kd a1 w h0) ws := by
  refine own_met (Q := (Q_vdepartureStep Z wd kd a1 w h0)) _ _ (plainFor_of_name own_pn_4) ?_
  intro p e s m below meth c T X0 hx hby hml hret hlk hZ hown hnm e0
  replace hown : s.vm.findClass "com/example/nudo/nudo/Vehicle" = some m.cls := hown
  replace hnm : meth.name = "departureStep" := hnm
  have hml : c.maxLocals = 1 := hml
  have N0 := Fr.nil Z.heap.size
  have K0 := Keep.refl h0 []
  refine own_go (fun _ k => castTop (ef_vdepartureStep m a1) k) ?_
  show own_Go p e below s _ _ _ (T.setTop (mkF m 0 #[rv a1] []))
  refine own_go (fun _ k => XS.aloadN X0.here hx rfl (hb hby d24_0) rfl rfl k) ?_
  obtain ⟨T1, X1, e1, st1⟩ := getF X0 hx hZ hown (host := "") (Or.inl (ow130 hw)) Via.refl e0 (fp0.keep K0 nin0) (g := (mkF m 1 #[rv a1] [(.ref a1)])) rfl rfl (hb hby d24_1)
  refine own_go st1 ?_
  clear st1 X0 e0
  show own_Go p e below s _ _ _ (T1.setTop (mkF m 4 #[rv a1] [(.int w)]))
  refine own_retI X1 hx hlk e1 hret (hb hby d24_4) (by show _ ≤ 0; omega) (by show _ ≤ 0; omega) ?_
  exact ⟨rfl, N0, rfl⟩
theorem d25_0 : decode prog_49_method_8_code 0 = .ok (.aload_n 0, 1) := by decide +kernel
theorem d25_1 : decode prog_49_method_8_code 1 = .ok (.getfield 16, 3) := by decide +kernel
theorem d25_4 : decode prog_49_method_8_code 4 = .ok (.ireturn, 1) := by decide +kernel
def Q_vexitStep (Z : State) (wd : Addr) (kd : ClassId) (a1 : Addr) (w : Int32) (h0 : Heap) (v : Option Value) (h : Heap) (L : List Loc) : Prop := (v = some (.int w) ∧ Fr Z.heap.size L ∧ h = h0)
theorem ef_vexitStep (m : MethodId) (x0 : Addr) : entryFrame m #[(.ref x0)] 1 = mkF m 0 #[rv x0] [] := by first | (simp [entryFrame, mkF, argsToLocals, Value.category]; done) | rfl
set_option maxRecDepth 65536 in
set_option maxHeartbeats 40000000 in
theorem rm_vexitStep (l : Launch) (Z : State) (a0 : Array Value) (hw : ∀ d ∈ tables_1, d.before a0 Z = true) {wd : Addr} {kd : ClassId} (oDE : Sta Z Z.heap "java/util/ArrayList" "DEFAULTCAPACITY_EMPTY_ELEMENTDATA" "[Ljava/lang/Object;" (.ref wd)) (oDV : Arv Z Z.heap wd kd (.object "java/lang/Object") (0 : Int32) [] .null) (ws : List Jvm.Cond) (a1 : Addr) (w : Int32) (h0 : Heap) (O0 : Ext Z.heap h0) (fp0 : Fld Z h0 a1 "com/example/nudo/nudo/Vehicle" "exitStep" "I" (.int w)) :
    own_MF l Z h0 (⟨"com/example/nudo/nudo/Vehicle", "exitStep", "()I"⟩ : MethodName) prog_49_method_8_code 1 (some .int) ({ frames := 0, cells := 0, slots := 0, locals := 0 } : Room) #[(.ref a1)] (Q_vexitStep Z wd kd a1 w h0) ws := by
  refine own_met (Q := (Q_vexitStep Z wd kd a1 w h0)) _ _ (plainFor_of_name own_pn_4) ?_
  intro p e s m below meth c T X0 hx hby hml hret hlk hZ hown hnm e0
  replace hown : s.vm.findClass "com/example/nudo/nudo/Vehicle" = some m.cls := hown
  replace hnm : meth.name = "exitStep" := hnm
  have hml : c.maxLocals = 1 := hml
  have N0 := Fr.nil Z.heap.size
  have K0 := Keep.refl h0 []
  refine own_go (fun _ k => castTop (ef_vexitStep m a1) k) ?_
  show own_Go p e below s _ _ _ (T.setTop (mkF m 0 #[rv a1] []))
  refine own_go (fun _ k => XS.aloadN X0.here hx rfl (hb hby d25_0) rfl rfl k) ?_
  obtain ⟨T1, X1, e1, st1⟩ := getF X0 hx hZ hown (host := "") (Or.inl (ow122 hw)) Via.refl e0 (fp0.keep K0 nin0) (g := (mkF m 1 #[rv a1] [(.ref a1)])) rfl rfl (hb hby d25_1)
  refine own_go st1 ?_
  clear st1 X0 e0
  show own_Go p e below s _ _ _ (T1.setTop (mkF m 4 #[rv a1] [(.int w)]))
  refine own_retI X1 hx hlk e1 hret (hb hby d25_4) (by show _ ≤ 0; omega) (by show _ ≤ 0; omega) ?_
  exact ⟨rfl, N0, rfl⟩
theorem d27_0 : decode prog_49_method_6_code 0 = .ok (.aload_n 0, 1) := by decide +kernel
theorem d27_1 : decode prog_49_method_6_code 1 = .ok (.getfield 7, 3) := by decide +kernel
theorem d27_4 : decode prog_49_method_6_code 4 = .ok (.iconst 1, 1) := by decide +kernel
theorem d27_5 : decode prog_49_method_6_code 5 = .ok (.iadd, 1) := by decide +kernel
theorem d27_6 : decode prog_49_method_6_code 6 = .ok (.ireturn, 1) := by decide +kernel
def Q_vle (Z : State) (wd : Addr) (kd : ClassId) (a1 : Addr) (h0 : Heap) (v : Option Value) (h : Heap) (L : List Loc) : Prop := (v = some (.int (0 : Int32)) ∧ Fr Z.heap.size L ∧ h = h0)
theorem ef_vle (m : MethodId) (x0 : Addr) : entryFrame m #[(.ref x0)] 1 = mkF m 0 #[rv x0] [] := by first | (simp [entryFrame, mkF, argsToLocals, Value.category]; done) | rfl
set_option maxRecDepth 65536 in
set_option maxHeartbeats 40000000 in
theorem rm_vle (l : Launch) (Z : State) (a0 : Array Value) (hw : ∀ d ∈ tables_1, d.before a0 Z = true) {wd : Addr} {kd : ClassId} (oDE : Sta Z Z.heap "java/util/ArrayList" "DEFAULTCAPACITY_EMPTY_ELEMENTDATA" "[Ljava/lang/Object;" (.ref wd)) (oDV : Arv Z Z.heap wd kd (.object "java/lang/Object") (0 : Int32) [] .null) (ws : List Jvm.Cond) (a1 : Addr) (h0 : Heap) (O0 : Ext Z.heap h0) (fp0 : Fld Z h0 a1 "com/example/nudo/nudo/Vehicle" "position" "I" (.int (-1 : Int32))) :
    own_MF l Z h0 (⟨"com/example/nudo/nudo/Vehicle", "linksEntered", "()I"⟩ : MethodName) prog_49_method_6_code 1 (some .int) ({ frames := 0, cells := 0, slots := 0, locals := 0 } : Room) #[(.ref a1)] (Q_vle Z wd kd a1 h0) ws := by
  refine own_met (Q := (Q_vle Z wd kd a1 h0)) _ _ (plainFor_of_name own_pn_4) ?_
  intro p e s m below meth c T X0 hx hby hml hret hlk hZ hown hnm e0
  replace hown : s.vm.findClass "com/example/nudo/nudo/Vehicle" = some m.cls := hown
  replace hnm : meth.name = "linksEntered" := hnm
  have hml : c.maxLocals = 1 := hml
  have N0 := Fr.nil Z.heap.size
  have K0 := Keep.refl h0 []
  refine own_go (fun _ k => castTop (ef_vle m a1) k) ?_
  show own_Go p e below s _ _ _ (T.setTop (mkF m 0 #[rv a1] []))
  refine own_go (fun _ k => XS.aloadN X0.here hx rfl (hb hby d27_0) rfl rfl k) ?_
  obtain ⟨T1, X1, e1, st1⟩ := getF X0 hx hZ hown (host := "") (Or.inl (ow118 hw)) Via.refl e0 (fp0.keep K0 nin0) (g := (mkF m 1 #[rv a1] [(.ref a1)])) rfl rfl (hb hby d27_1)
  refine own_go st1 ?_
  clear st1 X0 e0
  refine own_go (fun _ k => XS.iconst X1.here hx rfl (hb hby d27_4) k) ?_
  refine own_go (fun _ k => XS.iadd X1.here hx rfl (hb hby d27_5) rfl k) ?_
  show own_Go p e below s _ _ _ (T1.setTop (mkF m 6 #[rv a1] [(.int (0 : Int32))]))
  refine own_retI X1 hx hlk e1 hret (hb hby d27_6) (by show _ ≤ 0; omega) (by show _ ≤ 0; omega) ?_
  exact ⟨rfl, N0, rfl⟩
theorem d26_0 : decode prog_49_method_9_code 0 = .ok (.iconst 0, 1) := by decide +kernel
theorem d26_1 : decode prog_49_method_9_code 1 = .ok (.istore_n 1, 1) := by decide +kernel
theorem d26_2 : decode prog_49_method_9_code 2 = .ok (.aload_n 0, 1) := by decide +kernel
theorem d26_3 : decode prog_49_method_9_code 3 = .ok (.getfield 25, 3) := by decide +kernel
theorem d26_6 : decode prog_49_method_9_code 6 = .ok (.astore_n 2, 1) := by decide +kernel
theorem d26_7 : decode prog_49_method_9_code 7 = .ok (.aload_n 2, 1) := by decide +kernel
theorem d26_8 : decode prog_49_method_9_code 8 = .ok (.arraylength, 1) := by decide +kernel
theorem d26_9 : decode prog_49_method_9_code 9 = .ok (.istore_n 3, 1) := by decide +kernel
theorem d26_10 : decode prog_49_method_9_code 10 = .ok (.iconst 0, 1) := by decide +kernel
theorem d26_11 : decode prog_49_method_9_code 11 = .ok (.istore 4, 2) := by decide +kernel
theorem d26_13 : decode prog_49_method_9_code 13 = .ok (.iload 4, 2) := by decide +kernel
theorem d26_15 : decode prog_49_method_9_code 15 = .ok (.iload_n 3, 1) := by decide +kernel
theorem d26_16 : decode prog_49_method_9_code 16 = .ok (.if_icmp .ge 23, 3) := by decide +kernel
theorem d26_39 : decode prog_49_method_9_code 39 = .ok (.iload_n 1, 1) := by decide +kernel
theorem d26_40 : decode prog_49_method_9_code 40 = .ok (.ireturn, 1) := by decide +kernel
def Q_vpc (Z : State) (wd : Addr) (kd : ClassId) (a1 : Addr) (pa : Addr) (k : ClassId) (h0 : Heap) (v : Option Value) (h : Heap) (L : List Loc) : Prop := (v = some (.int (0 : Int32)) ∧ Fr Z.heap.size L ∧ h = h0)
theorem ef_vpc (m : MethodId) (x0 : Addr) : entryFrame m #[(.ref x0)] 6 = mkF m 0 #[rv x0, .unset, .unset, .unset, .unset, .unset] [] := by first | (simp [entryFrame, mkF, argsToLocals, Value.category]; done) | rfl
set_option maxRecDepth 65536 in
set_option maxHeartbeats 40000000 in
theorem rm_vpc (l : Launch) (Z : State) (a0 : Array Value) (hw : ∀ d ∈ tables_1, d.before a0 Z = true) {wd : Addr} {kd : ClassId} (oDE : Sta Z Z.heap "java/util/ArrayList" "DEFAULTCAPACITY_EMPTY_ELEMENTDATA" "[Ljava/lang/Object;" (.ref wd)) (oDV : Arv Z Z.heap wd kd (.object "java/lang/Object") (0 : Int32) [] .null) (ws : List Jvm.Cond) (a1 : Addr) (pa : Addr) (k : ClassId) (h0 : Heap) (O0 : Ext Z.heap h0) (fp0 : Fld Z h0 a1 "com/example/nudo/nudo/Vehicle" "path" "[Lcom/example/nudo/nudo/CellLink;" (.ref pa)) (fp1 : Arv Z h0 pa k (.object "com/example/nudo/nudo/CellLink") (0 : Int32) [] .null) :
    own_MF l Z h0 (⟨"com/example/nudo/nudo/Vehicle", "pathCells", "()I"⟩ : MethodName) prog_49_method_9_code 6 (some .int) ({ frames := 0, cells := 0, slots := 0, locals := 0 } : Room) #[(.ref a1)] (Q_vpc Z wd kd a1 pa k h0) ws := by
  refine own_met (Q := (Q_vpc Z wd kd a1 pa k h0)) _ _ (plainFor_of_name own_pn_4) ?_
  intro p e s m below meth c T X0 hx hby hml hret hlk hZ hown hnm e0
  replace hown : s.vm.findClass "com/example/nudo/nudo/Vehicle" = some m.cls := hown
  replace hnm : meth.name = "pathCells" := hnm
  have hml : c.maxLocals = 6 := hml
  have N0 := Fr.nil Z.heap.size
  have K0 := Keep.refl h0 []
  refine own_go (fun _ k => castTop (ef_vpc m a1) k) ?_
  show own_Go p e below s _ _ _ (T.setTop (mkF m 0 #[rv a1, .unset, .unset, .unset, .unset, .unset] []))
  refine own_go (fun _ k => XS.iconst X0.here hx rfl (hb hby d26_0) k) ?_
  refine own_go (fun _ k => XS.istoreN X0.here hx rfl (hb hby d26_1) rfl (l' := #[rv a1, iv (0 : Int32), .unset, .unset, .unset, .unset]) rfl k) ?_
  refine own_go (fun _ k => XS.aloadN X0.here hx rfl (hb hby d26_2) rfl rfl k) ?_
  obtain ⟨T1, X1, e1, st1⟩ := getF X0 hx hZ hown (host := "") (Or.inl (ow128 hw)) Via.refl e0 (fp0.keep K0 nin0) (g := (mkF m 3 #[rv a1, iv (0 : Int32), .unset, .unset, .unset, .unset] [(.ref a1)])) rfl rfl (hb hby d26_3)
  refine own_go st1 ?_
  clear st1 X0 e0
  refine own_go (fun _ k => XS.astoreN X1.here hx rfl (hb hby d26_6) rfl rfl (l' := #[rv a1, iv (0 : Int32), rv pa, .unset, .unset, .unset]) rfl k) ?_
  refine own_go (fun _ k => XS.aloadN X1.here hx rfl (hb hby d26_7) rfl rfl k) ?_
  show own_Go p e below s _ _ _ (T1.setTop (mkF m 8 #[rv a1, iv (0 : Int32), rv pa, .unset, .unset, .unset] [(.ref pa)]))
  obtain ⟨cl2, Ar2, -, S2, M2, -, -⟩ := id (fp1.keep K0 nin0)
  refine own_go (X1.arraylength hx (by rw [e1]; exact Ar2.1) (State.isArrayOf_alike hZ.alike Ar2.2.1) (g := (mkF m 8 #[rv a1, iv (0 : Int32), rv pa, .unset, .unset, .unset] [(.ref pa)])) rfl rfl (hb hby d26_8)) ?_
  rw [len_of S2 M2]
  refine own_go (fun _ k => XS.istoreN X1.here hx rfl (hb hby d26_9) rfl (l' := #[rv a1, iv (0 : Int32), rv pa, iv (0 : Int32), .unset, .unset]) rfl k) ?_
  refine own_go (fun _ k => XS.iconst X1.here hx rfl (hb hby d26_10) k) ?_
  refine own_go (fun _ k => XS.istore X1.here hx rfl (hb hby d26_11) rfl (l' := #[rv a1, iv (0 : Int32), rv pa, iv (0 : Int32), iv (0 : Int32), .unset]) rfl k) ?_
  refine own_go (fun _ k => XS.iload X1.here hx rfl (hb hby d26_13) rfl k) ?_
  refine own_go (fun _ k => XS.iloadN X1.here hx rfl (hb hby d26_15) rfl k) ?_
  refine own_go (fun _ k => XS.icmpYes X1.here hx rfl (pc0 := 16) (pc' := 39) rfl (hb hby d26_16) rfl (flt (by decide : ¬ ((0 : Int32) < (0 : Int32)))).2.1 (by decide) (by decide) k) ?_
  show own_Go p e below s _ _ _ (T1.setTop (mkF m 39 #[rv a1, iv (0 : Int32), rv pa, iv (0 : Int32), iv (0 : Int32), .unset] []))
  refine own_go (fun _ k => XS.iloadN X1.here hx rfl (hb hby d26_39) rfl k) ?_
  show own_Go p e below s _ _ _ (T1.setTop (mkF m 40 #[rv a1, iv (0 : Int32), rv pa, iv (0 : Int32), iv (0 : Int32), .unset] [(.int (0 : Int32))]))
  refine own_retI X1 hx hlk e1 hret (hb hby d26_40) (by show _ ≤ 0; omega) (by show _ ≤ 0; omega) ?_
  exact ⟨rfl, N0, rfl⟩
theorem d8_0 : decode jdk_49_method_1_code 0 = .ok (.aload_n 0, 1) := by decide +kernel
theorem d8_1 : decode jdk_49_method_1_code 1 = .ok (.aload_n 1, 1) := by decide +kernel
theorem d8_2 : decode jdk_49_method_1_code 2 = .ok (.putfield 1, 3) := by decide +kernel
theorem d8_5 : decode jdk_49_method_1_code 5 = .ok (.aload_n 0, 1) := by decide +kernel
theorem d8_6 : decode jdk_49_method_1_code 6 = .ok (.invokespecial 7, 3) := by decide +kernel
theorem d8_9 : decode jdk_49_method_1_code 9 = .ok (.aload_n 0, 1) := by decide +kernel
theorem d8_10 : decode jdk_49_method_1_code 10 = .ok (.iconst (-1), 1) := by decide +kernel
theorem d8_11 : decode jdk_49_method_1_code 11 = .ok (.putfield 13, 3) := by decide +kernel
theorem d8_14 : decode jdk_49_method_1_code 14 = .ok (.aload_n 0, 1) := by decide +kernel
theorem d8_15 : decode jdk_49_method_1_code 15 = .ok (.aload_n 0, 1) := by decide +kernel
theorem d8_16 : decode jdk_49_method_1_code 16 = .ok (.getfield 1, 3) := by decide +kernel
theorem d8_19 : decode jdk_49_method_1_code 19 = .ok (.getfield 17, 3) := by decide +kernel
theorem d8_22 : decode jdk_49_method_1_code 22 = .ok (.putfield 22, 3) := by decide +kernel
theorem d8_25 : decode jdk_49_method_1_code 25 = .ok (.return_, 1) := by decide +kernel
def Q_itinit (Z : State) (wd : Addr) (kd : ClassId) (a1 : Addr) (a2 : Addr) (mc : Int32) (h0 : Heap) (v : Option Value) (h : Heap) (L : List Loc) : Prop := (v = none ∧ Fr Z.heap.size L ∧ Keep h0 h [a1] ∧ Exa Z h a1 "java/util/ArrayList$Itr" ∧ Fld Z h a1 "java/util/ArrayList$Itr" "this$0" "Ljava/util/ArrayList;" (.ref a2) ∧ Fld Z h a1 "java/util/ArrayList$Itr" "cursor" "I" (.int (0 : Int32)) ∧ Fld Z h a1 "java/util/ArrayList$Itr" "lastRet" "I" (.int (-1 : Int32)) ∧ Fld Z h a1 "java/util/ArrayList$Itr" "expectedModCount" "I" (.int mc))
theorem ef_itinit (m : MethodId) (x0 : Addr) (x1 : Addr) : entryFrame m #[(.ref x0), (.ref x1)] 2 = mkF m 0 #[rv x0, rv x1] [] := by first | (simp [entryFrame, mkF, argsToLocals, Value.category]; done) | rfl
set_option maxRecDepth 65536 in
set_option maxHeartbeats 40000000 in
theorem rm_itinit (l : Launch) (Z : State) (a0 : Array Value) (hw : ∀ d ∈ tables_1, d.before a0 Z = true) {wd : Addr} {kd : ClassId} (oDE : Sta Z Z.heap "java/util/ArrayList" "DEFAULTCAPACITY_EMPTY_ELEMENTDATA" "[Ljava/lang/Object;" (.ref wd)) (oDV : Arv Z Z.heap wd kd (.object "java/lang/Object") (0 : Int32) [] .null) (ws : List Jvm.Cond) (a1 : Addr) (a2 : Addr) (mc : Int32) (h0 : Heap) (O0 : Ext Z.heap h0) (fp0 : Exa Z h0 a1 "java/util/ArrayList$Itr") (fp1 : Fld Z h0 a1 "java/util/ArrayList$Itr" "this$0" "Ljava/util/ArrayList;" .null) (fp2 : Fld Z h0 a1 "java/util/ArrayList$Itr" "cursor" "I" (.int (0 : Int32))) (fp3 : Fld Z h0 a1 "java/util/ArrayList$Itr" "lastRet" "I" (.int (0 : Int32))) (fp4 : Fld Z h0 a1 "java/util/ArrayList$Itr" "expectedModCount" "I" (.int (0 : Int32))) (fp5 : Exa Z h0 a2 "java/util/ArrayList") (fp6 : Fld Z h0 a2 "java/util/AbstractList" "modCount" "I" (.int mc)) (big_a1 : Z.heap.size ≤ a1) :
    own_MF l Z h0 (⟨"java/util/ArrayList$Itr", "<init>", "(Ljava/util/ArrayList;)V"⟩ : MethodName) jdk_49_method_1_code 2 none ({ frames := 1, cells := 0, slots := 0, locals := 12 } : Room) #[(.ref a1), (.ref a2)] (Q_itinit Z wd kd a1 a2 mc h0) ws := by
  refine own_met (Q := (Q_itinit Z wd kd a1 a2 mc h0)) _ _ (plainFor_of_name own_pn_6) ?_
  intro p e s m below meth c T X0 hx hby hml hret hlk hZ hown hnm e0
  replace hown : s.vm.findClass "java/util/ArrayList$Itr" = some m.cls := hown
  replace hnm : meth.name = "<init>" := hnm
  have hml : c.maxLocals = 2 := hml
  have N0 := Fr.nil Z.heap.size
  have K0 := Keep.refl h0 [a1]
  refine own_go (fun _ k => castTop (ef_itinit m a1 a2) k) ?_
  have ne1 : a2 ≠ a1 := (ne_exa fp5 fp0 (by decide))
  show own_Go p e below s _ _ _ (T.setTop (mkF m 0 #[rv a1, rv a2] []))
  refine own_go (fun _ k => XS.aloadN X0.here hx rfl (hb hby d8_0) rfl rfl k) ?_
  refine own_go (fun _ k => XS.aloadN X0.here hx rfl (hb hby d8_1) rfl rfl k) ?_
  obtain ⟨T2, h2, X2, e2, W2, st2⟩ := putF X0 hx hZ hown (host := "") (Or.inl (ow73 hw)) Via.refl e0 fp1 fp0 (Or.inr ⟨(ow74 hw), rfl, hnm⟩) (ow67 hw) (ty := (.object "java/util/ArrayList")) own_fd5 rfl rfl (g := (mkF m 2 #[rv a1, rv a2] [(.ref a2), (.ref a1)])) rfl rfl (hb hby d8_2)
  refine own_go st2 ?_
  clear st2 X0 e0
  replace N0 := Fr.snoc X2 N0 big_a1
  replace fp0 := fp0.wr W2
  replace fp1 := fp1.same W2
  replace fp2 := fp2.other W2 (.inr (own_sn39 hw))
  replace fp3 := fp3.other W2 (.inr (own_sn40 hw))
  replace fp4 := fp4.other W2 (.inr (own_sn41 hw))
  replace O0 := own_oldWr O0 W2 big_a1
  replace K0 := K0.wr W2 (Or.inl (List.mem_of_getElem? (i := 0) rfl))
  clear W2
  refine own_go (fun _ k => XS.aloadN X2.here hx rfl (hb hby d8_5) rfl rfl k) ?_
  obtain ⟨T3, X3, e3, st3⟩ := initO X2 hx hZ hown (ow75 hw) (ow20 hw) (ow21 hw) e2 (g := (mkF m 6 #[rv a1, rv a2] [(.ref a1)])) rfl (by rw [hml]; rfl) rfl (hb hby d8_6) (by decide) (W := 0) (by show 2 * 0 + _ ≤ _; exact Nat.le_of_eq rfl) (by decide)
  refine own_go st3 ?_
  clear st3 X2 e2
  refine own_go (fun _ k => XS.aloadN X3.here hx rfl (hb hby d8_9) rfl rfl k) ?_
  refine own_go (fun _ k => XS.iconst X3.here hx rfl (hb hby d8_10) k) ?_
  show own_Go p e below s _ _ _ (T3.setTop (mkF m 11 #[rv a1, rv a2] [(.int (-1 : Int32)), (.ref a1)]))
  obtain ⟨T4, h4, X4, e4, W4, st4⟩ := putF X3 hx hZ hown (host := "") (Or.inl (ow76 hw)) Via.refl e3 fp3 fp0 (Or.inl (ow77 hw)) (ow67 hw) (ty := .int) own_fd0 rfl rfl (g := (mkF m 11 #[rv a1, rv a2] [(.int (-1 : Int32)), (.ref a1)])) rfl rfl (hb hby d8_11)
  refine own_go st4 ?_
  clear st4 X3 e3
  replace N0 := Fr.snoc X4 N0 big_a1
  replace fp0 := fp0.wr W4
  replace fp1 := fp1.other W4 (.inr (own_sn40 hw).symm)
  replace fp2 := fp2.other W4 (.inr (own_sn42 hw))
  replace fp3 := fp3.same W4
  replace fp4 := fp4.other W4 (.inr (own_sn43 hw))
  replace O0 := own_oldWr O0 W4 big_a1
  replace K0 := K0.wr W4 (Or.inl (List.mem_of_getElem? (i := 0) rfl))
  clear W4
  refine own_go (fun _ k => XS.aloadN X4.here hx rfl (hb hby d8_14) rfl rfl k) ?_
  refine own_go (fun _ k => XS.aloadN X4.here hx rfl (hb hby d8_15) rfl rfl k) ?_
  obtain ⟨T5, X5, e5, st5⟩ := getF X4 hx hZ hown (host := "") (Or.inl (ow73 hw)) Via.refl e4 fp1 (g := (mkF m 16 #[rv a1, rv a2] [(.ref a1), (.ref a1)])) rfl rfl (hb hby d8_16)
  refine own_go st5 ?_
  clear st5 X4 e4
  obtain ⟨T6, X6, e6, st6⟩ := getF X5 hx hZ hown (host := "") (Or.inl (ow78 hw)) (Via.of (ow79 hw)) e5 (fp6.keep K0 (ninS ne1 nin0)) (g := (mkF m 19 #[rv a1, rv a2] [(.ref a2), (.ref a1)])) rfl rfl (hb hby d8_19)
  refine own_go st6 ?_
  clear st6 X5 e5
  obtain ⟨T7, h7, X7, e7, W7, st7⟩ := putF X6 hx hZ hown (host := "") (Or.inl (ow80 hw)) Via.refl e6 fp4 fp0 (Or.inl (ow81 hw)) (ow67 hw) (ty := .int) own_fd0 rfl rfl (g := (mkF m 22 #[rv a1, rv a2] [(.int mc), (.ref a1)])) rfl rfl (hb hby d8_22)
  refine own_go st7 ?_
  clear st7 X6 e6
  replace N0 := Fr.snoc X7 N0 big_a1
  replace fp0 := fp0.wr W7
  replace fp1 := fp1.other W7 (.inr (own_sn41 hw).symm)
  replace fp2 := fp2.other W7 (.inr (own_sn44 hw))
  replace fp3 := fp3.other W7 (.inr (own_sn43 hw).symm)
  replace fp4 := fp4.same W7
  replace O0 := own_oldWr O0 W7 big_a1
  replace K0 := K0.wr W7 (Or.inl (List.mem_of_getElem? (i := 0) rfl))
  clear W7
  show own_Go p e below s _ _ _ (T7.setTop (mkF m 25 #[rv a1, rv a2] []))
  refine own_retV X7 hx hlk e7 hret (hb hby d8_25) (by show _ ≤ 0; omega) (by show _ ≤ 0; omega) ?_
  exact ⟨rfl, N0, K0, fp0, fp1, fp2, fp3, fp4⟩
theorem d7_0 : decode jdk_38_method_55_code 0 = .ok (.new 267, 3) := by decide +kernel
theorem d7_3 : decode jdk_38_method_55_code 3 = .ok (.dup, 1) := by decide +kernel
theorem d7_4 : decode jdk_38_method_55_code 4 = .ok (.aload_n 0, 1) := by decide +kernel
theorem d7_5 : decode jdk_38_method_55_code 5 = .ok (.invokespecial 269, 3) := by decide +kernel
theorem d7_8 : decode jdk_38_method_55_code 8 = .ok (.areturn, 1) := by decide +kernel
def Q_aliter (Z : State) (wd : Addr) (kd : ClassId) (a1 : Addr) (mc : Int32) (h0 : Heap) (v : Option Value) (h : Heap) (L : List Loc) : Prop := (∃ b : Addr, v = some (.ref b) ∧ Fr Z.heap.size L ∧ Keep h0 h [] ∧ h0.size ≤ b ∧ Exa Z h b "java/util/ArrayList$Itr" ∧ Fld Z h b "java/util/ArrayList$Itr" "this$0" "Ljava/util/ArrayList;" (.ref a1) ∧ Fld Z h b "java/util/ArrayList$Itr" "cursor" "I" (.int (0 : Int32)) ∧ Fld Z h b "java/util/ArrayList$Itr" "lastRet" "I" (.int (-1 : Int32)) ∧ Fld Z h b "java/util/ArrayList$Itr" "expectedModCount" "I" (.int mc))
theorem ef_aliter (m : MethodId) (x0 : Addr) : entryFrame m #[(.ref x0)] 1 = mkF m 0 #[rv x0] [] := by first | (simp [entryFrame, mkF, argsToLocals, Value.category]; done) | rfl
set_option maxRecDepth 65536 in
set_option maxHeartbeats 40000000 in
theorem rm_aliter (l : Launch) (Z : State) (a0 : Array Value) (hw : ∀ d ∈ tables_1, d.before a0 Z = true) {wd : Addr} {kd : ClassId} (oDE : Sta Z Z.heap "java/util/ArrayList" "DEFAULTCAPACITY_EMPTY_ELEMENTDATA" "[Ljava/lang/Object;" (.ref wd)) (oDV : Arv Z Z.heap wd kd (.object "java/lang/Object") (0 : Int32) [] .null) (ws : List Jvm.Cond) (a1 : Addr) (mc : Int32) (h0 : Heap) (O0 : Ext Z.heap h0) (fp0 : Exa Z h0 a1 "java/util/ArrayList") (fp1 : Fld Z h0 a1 "java/util/AbstractList" "modCount" "I" (.int mc)) :
    own_MF l Z h0 (⟨"java/util/ArrayList", "iterator", "()Ljava/util/Iterator;"⟩ : MethodName) jdk_38_method_55_code 1 (some (.object "java/util/Iterator")) ({ frames := 2, cells := 1, slots := 4, locals := 26 } : Room) #[(.ref a1)] (Q_aliter Z wd kd a1 mc h0) ws := by
  refine own_met (Q := (Q_aliter Z wd kd a1 mc h0)) _ _ (plainFor_of_name own_pn_2) ?_
  intro p e s m below meth c T X0 hx hby hml hret hlk hZ hown hnm e0
  replace hown : s.vm.findClass "java/util/ArrayList" = some m.cls := hown
  replace hnm : meth.name = "iterator" := hnm
  have hml : c.maxLocals = 1 := hml
  have N0 := Fr.nil Z.heap.size
  have K0 := Keep.refl h0 []
  refine own_go (fun _ k => castTop (ef_aliter m a1) k) ?_
  show own_Go p e below s _ _ _ (T.setTop (mkF m 0 #[rv a1] []))
  obtain ⟨T1, h1, X1, e1, E1, A1, D1, -, st1⟩ := newO X0 hx hZ hown (ow66 hw) (ow67 hw) (ow68 hw) e0 (g := (mkF m 0 #[rv a1] [])) rfl (hb hby d7_0) (by show _ ≤ 1; omega) (by show _ ≤ 4; omega)
  obtain ⟨b1, g1⟩ : ∃ z, z = h0.size := ⟨_, rfl⟩
  rw [← g1] at A1 D1 st1
  refine own_go st1 ?_
  clear st1 X0 e0
  have ge1 := Nat.le_of_eq g1.symm
  have big2 : Z.heap.size ≤ b1 := Nat.le_trans O0.1 ge1
  have sz3 : h0.size ≤ b1 := Nat.le_trans K0.1 ge1
  replace O0 := own_oldExt O0 E1
  replace K0 := K0.ext E1
  clear E1
  have f4 : Fld Z h1 b1 "java/util/ArrayList$Itr" "this$0" "Ljava/util/ArrayList;" .null := D1 (Or.inr (ow74 hw)) (ty := (.object "java/util/ArrayList")) own_fd5
  have f5 : Fld Z h1 b1 "java/util/ArrayList$Itr" "lastRet" "I" (.int (0 : Int32)) := D1 (Or.inl (ow77 hw)) (ty := .int) own_fd0
  have f6 : Fld Z h1 b1 "java/util/ArrayList$Itr" "expectedModCount" "I" (.int (0 : Int32)) := D1 (Or.inl (ow81 hw)) (ty := .int) own_fd0
  have f7 : Fld Z h1 b1 "java/util/ArrayList$Itr" "cursor" "I" (.int (0 : Int32)) := D1 (Or.inl (ow92 hw)) (ty := .int) own_fd0
  refine own_go (fun _ k => XS.dup X1.here hx rfl (hb hby d7_3) rfl rfl k) ?_
  refine own_go (fun _ k => XS.aloadN X1.here hx rfl (hb hby d7_4) rfl rfl k) ?_
  obtain ⟨v8, T8, L8, X8, hQ8, st8⟩ := own_callI (y := (⟨"java/util/ArrayList$Itr", "<init>", "(Ljava/util/ArrayList;)V"⟩ : MethodName)) X1 hx hZ hown (ow69 hw) (ow70 hw) (ow68 hw) (ow72 hw) (rm_itinit l Z a0 hw oDE oDV [] b1 a1 mc h1 O0 A1 f4 f7 f5 f6 (fp0.keep K0) (fp1.keep K0 nin0) big2) 1 0 0 rfl (by show _ ≤ 1; omega) (by show _ ≤ 4; omega) e1 (g := (mkF m 5 #[rv a1] [(.ref a1), (.ref b1), (.ref b1)])) rfl (by rw [hml]; rfl) b1 [(.ref a1)] [(.ref b1)] (lenOf own_pd_8 rfl) rfl rfl (hb hby d7_5)
  obtain ⟨rfl, Nc15, Kc14, f9, f10, f11, f12, f13⟩ := hQ8
  refine own_go st8 ?_
  clear st8 X1 e1
  replace N0 := Fr.app N0 Nc15
  clear Nc15
  replace A1 := A1.keep Kc14
  clear f4
  clear f5
  clear f6
  clear f7
  replace O0 := own_oldKeep O0 Kc14 (allS big2 all0)
  replace K0 := K0.trans Kc14 (allS (Or.inr sz3) all0)
  clear Kc14
  show own_Go p e below s _ _ _ (T8.setTop (mkF m 8 #[rv a1] [(.ref b1)]))
  refine own_retA X8 hx hlk (rfl : T8.heap = T8.heap) hret rfl rfl (hb hby d7_8) (by show _ ≤ 1; omega) (by show _ ≤ 4; omega) ?_
  exact ⟨b1, rfl, N0, K0, sz3, f9, f10, f11, f12, f13⟩
theorem d9_0 : decode jdk_49_method_2_code 0 = .ok (.aload_n 0, 1) := by decide +kernel
theorem d9_1 : decode jdk_49_method_2_code 1 = .ok (.getfield 25, 3) := by decide +kernel
theorem d9_4 : decode jdk_49_method_2_code 4 = .ok (.aload_n 0, 1) := by decide +kernel
theorem d9_5 : decode jdk_49_method_2_code 5 = .ok (.getfield 1, 3) := by decide +kernel
theorem d9_8 : decode jdk_49_method_2_code 8 = .ok (.getfield 28, 3) := by decide +kernel
theorem d9_11 : decode jdk_49_method_2_code 11 = .ok (.if_icmp .eq 7, 3) := by decide +kernel
theorem d9_18 : decode jdk_49_method_2_code 18 = .ok (.iconst 0, 1) := by decide +kernel
theorem d9_19 : decode jdk_49_method_2_code 19 = .ok (.ireturn, 1) := by decide +kernel
def Q_hn_0_0 (Z : State) (wd : Addr) (kd : ClassId) (a1 : Addr) (a2 : Addr) (h0 : Heap) (v : Option Value) (h : Heap) (L : List Loc) : Prop := (v = some (.int (0 : Int32)) ∧ Fr Z.heap.size L ∧ h = h0)
theorem ef_hn_0_0 (m : MethodId) (x0 : Addr) : entryFrame m #[(.ref x0)] 1 = mkF m 0 #[rv x0] [] := by first | (simp [entryFrame, mkF, argsToLocals, Value.category]; done) | rfl
set_option maxRecDepth 65536 in
set_option maxHeartbeats 40000000 in
theorem rm_hn_0_0 (l : Launch) (Z : State) (a0 : Array Value) (hw : ∀ d ∈ tables_1, d.before a0 Z = true) {wd : Addr} {kd : ClassId} (oDE : Sta Z Z.heap "java/util/ArrayList" "DEFAULTCAPACITY_EMPTY_ELEMENTDATA" "[Ljava/lang/Object;" (.ref wd)) (oDV : Arv Z Z.heap wd kd (.object "java/lang/Object") (0 : Int32) [] .null) (ws : List Jvm.Cond) (a1 : Addr) (a2 : Addr) (h0 : Heap) (O0 : Ext Z.heap h0) (fp0 : Fld Z h0 a1 "java/util/ArrayList$Itr" "this$0" "Ljava/util/ArrayList;" (.ref a2)) (fp1 : Fld Z h0 a1 "java/util/ArrayList$Itr" "cursor" "I" (.int (0 : Int32))) (fp2 : Fld Z h0 a2 "java/util/ArrayList" "size" "I" (.int (0 : Int32))) :
    own_MF l Z h0 (⟨"java/util/ArrayList$Itr", "hasNext", "()Z"⟩ : MethodName) jdk_49_method_2_code 1 (some .boolean) ({ frames := 0, cells := 0, slots := 0, locals := 0 } : Room) #[(.ref a1)] (Q_hn_0_0 Z wd kd a1 a2 h0) ws := by
  refine own_met (Q := (Q_hn_0_0 Z wd kd a1 a2 h0)) _ _ (plainFor_of_name own_pn_6) ?_
  intro p e s m below meth c T X0 hx hby hml hret hlk hZ hown hnm e0
  replace hown : s.vm.findClass "java/util/ArrayList$Itr" = some m.cls := hown
  replace hnm : meth.name = "hasNext" := hnm
  have hml : c.maxLocals = 1 := hml
  have N0 := Fr.nil Z.heap.size
  have K0 := Keep.refl h0 []
  refine own_go (fun _ k => castTop (ef_hn_0_0 m a1) k) ?_
  show own_Go p e below s _ _ _ (T.setTop (mkF m 0 #[rv a1] []))
  refine own_go (fun _ k => XS.aloadN X0.here hx rfl (hb hby d9_0) rfl rfl k) ?_
  obtain ⟨T1, X1, e1, st1⟩ := getF X0 hx hZ hown (host := "") (Or.inl (ow91 hw)) Via.refl e0 (fp1.keep K0 nin0) (g := (mkF m 1 #[rv a1] [(.ref a1)])) rfl rfl (hb hby d9_1)
  refine own_go st1 ?_
  clear st1 X0 e0
  refine own_go (fun _ k => XS.aloadN X1.here hx rfl (hb hby d9_4) rfl rfl k) ?_
  obtain ⟨T2, X2, e2, st2⟩ := getF X1 hx hZ hown (host := "") (Or.inl (ow73 hw)) Via.refl e1 (fp0.keep K0 nin0) (g := (mkF m 5 #[rv a1] [(.ref a1), (.int (0 : Int32))])) rfl rfl (hb hby d9_5)
  refine own_go st2 ?_
  clear st2 X1 e1
  obtain ⟨T3, X3, e3, st3⟩ := getF X2 hx hZ hown (Or.inr (ow93 hw)) Via.refl e2 (fp2.keep K0 nin0) (g := (mkF m 8 #[rv a1] [(.ref a2), (.int (0 : Int32))])) rfl rfl (hb hby d9_8)
  refine own_go st3 ?_
  clear st3 X2 e2
  refine own_go (fun _ k => XS.icmpYes X3.here hx rfl (pc0 := 11) (pc' := 18) rfl (hb hby d9_11) rfl (teq (by decide : (0 : Int32) = (0 : Int32))).1 (by decide) (by decide) k) ?_
  refine own_go (fun _ k => XS.iconst X3.here hx rfl (hb hby d9_18) k) ?_
  show own_Go p e below s _ _ _ (T3.setTop (mkF m 19 #[rv a1] [(.int (0 : Int32))]))
  refine own_retN X3 hx hlk e3 (t := .boolean) hret (by simp) (hb hby d9_19) (by show _ ≤ 0; omega) (by show _ ≤ 0; omega) ?_
  exact ⟨rfl, N0, rfl⟩
theorem d9_14 : decode jdk_49_method_2_code 14 = .ok (.iconst 1, 1) := by decide +kernel
theorem d9_15 : decode jdk_49_method_2_code 15 = .ok (.goto 4, 3) := by decide +kernel
def Q_hn_1_0 (Z : State) (wd : Addr) (kd : ClassId) (a1 : Addr) (a2 : Addr) (h0 : Heap) (v : Option Value) (h : Heap) (L : List Loc) : Prop := (v = some (.int (1 : Int32)) ∧ Fr Z.heap.size L ∧ h = h0)
theorem ef_hn_1_0 (m : MethodId) (x0 : Addr) : entryFrame m #[(.ref x0)] 1 = mkF m 0 #[rv x0] [] := by first | (simp [entryFrame, mkF, argsToLocals, Value.category]; done) | rfl
set_option maxRecDepth 65536 in
set_option maxHeartbeats 40000000 in
theorem rm_hn_1_0 (l : Launch) (Z : State) (a0 : Array Value) (hw : ∀ d ∈ tables_1, d.before a0 Z = true) {wd : Addr} {kd : ClassId} (oDE : Sta Z Z.heap "java/util/ArrayList" "DEFAULTCAPACITY_EMPTY_ELEMENTDATA" "[Ljava/lang/Object;" (.ref wd)) (oDV : Arv Z Z.heap wd kd (.object "java/lang/Object") (0 : Int32) [] .null) (ws : List Jvm.Cond) (a1 : Addr) (a2 : Addr) (h0 : Heap) (O0 : Ext Z.heap h0) (fp0 : Fld Z h0 a1 "java/util/ArrayList$Itr" "this$0" "Ljava/util/ArrayList;" (.ref a2)) (fp1 : Fld Z h0 a1 "java/util/ArrayList$Itr" "cursor" "I" (.int (0 : Int32))) (fp2 : Fld Z h0 a2 "java/util/ArrayList" "size" "I" (.int (1 : Int32))) :
    own_MF l Z h0 (⟨"java/util/ArrayList$Itr", "hasNext", "()Z"⟩ : MethodName) jdk_49_method_2_code 1 (some .boolean) ({ frames := 0, cells := 0, slots := 0, locals := 0 } : Room) #[(.ref a1)] (Q_hn_1_0 Z wd kd a1 a2 h0) ws := by
  refine own_met (Q := (Q_hn_1_0 Z wd kd a1 a2 h0)) _ _ (plainFor_of_name own_pn_6) ?_
  intro p e s m below meth c T X0 hx hby hml hret hlk hZ hown hnm e0
  replace hown : s.vm.findClass "java/util/ArrayList$Itr" = some m.cls := hown
  replace hnm : meth.name = "hasNext" := hnm
  have hml : c.maxLocals = 1 := hml
  have N0 := Fr.nil Z.heap.size
  have K0 := Keep.refl h0 []
  refine own_go (fun _ k => castTop (ef_hn_1_0 m a1) k) ?_
  show own_Go p e below s _ _ _ (T.setTop (mkF m 0 #[rv a1] []))
  refine own_go (fun _ k => XS.aloadN X0.here hx rfl (hb hby d9_0) rfl rfl k) ?_
  obtain ⟨T1, X1, e1, st1⟩ := getF X0 hx hZ hown (host := "") (Or.inl (ow91 hw)) Via.refl e0 (fp1.keep K0 nin0) (g := (mkF m 1 #[rv a1] [(.ref a1)])) rfl rfl (hb hby d9_1)
  refine own_go st1 ?_
  clear st1 X0 e0
  refine own_go (fun _ k => XS.aloadN X1.here hx rfl (hb hby d9_4) rfl rfl k) ?_
  obtain ⟨T2, X2, e2, st2⟩ := getF X1 hx hZ hown (host := "") (Or.inl (ow73 hw)) Via.refl e1 (fp0.keep K0 nin0) (g := (mkF m 5 #[rv a1] [(.ref a1), (.int (0 : Int32))])) rfl rfl (hb hby d9_5)
  refine own_go st2 ?_
  clear st2 X1 e1
  obtain ⟨T3, X3, e3, st3⟩ := getF X2 hx hZ hown (Or.inr (ow93 hw)) Via.refl e2 (fp2.keep K0 nin0) (g := (mkF m 8 #[rv a1] [(.ref a2), (.int (0 : Int32))])) rfl rfl (hb hby d9_8)
  refine own_go st3 ?_
  clear st3 X2 e2
  refine own_go (fun _ k => XS.icmpNo X3.here hx rfl (hb hby d9_11) rfl (feq (by decide : ¬ ((0 : Int32) = (1 : Int32)))).1 k) ?_
  refine own_go (fun _ k => XS.iconst X3.here hx rfl (hb hby d9_14) k) ?_
  show own_Go p e below s _ _ _ (T3.setTop (mkF m 15 #[rv a1] [(.int (1 : Int32))]))
  refine own_go (fun _ k => XS.goto X3.here hx rfl (pc0 := 15) (pc' := 19) rfl (hb hby d9_15) (by decide) (by decide) k) ?_
  show own_Go p e below s _ _ _ (T3.setTop (mkF m 19 #[rv a1] [(.int (1 : Int32))]))
  refine own_retN X3 hx hlk e3 (t := .boolean) hret (by simp) (hb hby d9_19) (by show _ ≤ 0; omega) (by show _ ≤ 0; omega) ?_
  exact ⟨rfl, N0, rfl⟩
def Q_hn_1_1 (Z : State) (wd : Addr) (kd : ClassId) (a1 : Addr) (a2 : Addr) (h0 : Heap) (v : Option Value) (h : Heap) (L : List Loc) : Prop := (v = some (.int (0 : Int32)) ∧ Fr Z.heap.size L ∧ h = h0)
theorem ef_hn_1_1 (m : MethodId) (x0 : Addr) : entryFrame m #[(.ref x0)] 1 = mkF m 0 #[rv x0] [] := by first | (simp [entryFrame, mkF, argsToLocals, Value.category]; done) | rfl
set_option maxRecDepth 65536 in
set_option maxHeartbeats 40000000 in
theorem rm_hn_1_1 (l : Launch) (Z : State) (a0 : Array Value) (hw : ∀ d ∈ tables_1, d.before a0 Z = true) {wd : Addr} {kd : ClassId} (oDE : Sta Z Z.heap "java/util/ArrayList" "DEFAULTCAPACITY_EMPTY_ELEMENTDATA" "[Ljava/lang/Object;" (.ref wd)) (oDV : Arv Z Z.heap wd kd (.object "java/lang/Object") (0 : Int32) [] .null) (ws : List Jvm.Cond) (a1 : Addr) (a2 : Addr) (h0 : Heap) (O0 : Ext Z.heap h0) (fp0 : Fld Z h0 a1 "java/util/ArrayList$Itr" "this$0" "Ljava/util/ArrayList;" (.ref a2)) (fp1 : Fld Z h0 a1 "java/util/ArrayList$Itr" "cursor" "I" (.int (1 : Int32))) (fp2 : Fld Z h0 a2 "java/util/ArrayList" "size" "I" (.int (1 : Int32))) :
    own_MF l Z h0 (⟨"java/util/ArrayList$Itr", "hasNext", "()Z"⟩ : MethodName) jdk_49_method_2_code 1 (some .boolean) ({ frames := 0, cells := 0, slots := 0, locals := 0 } : Room) #[(.ref a1)] (Q_hn_1_1 Z wd kd a1 a2 h0) ws := by
  refine own_met (Q := (Q_hn_1_1 Z wd kd a1 a2 h0)) _ _ (plainFor_of_name own_pn_6) ?_
  intro p e s m below meth c T X0 hx hby hml hret hlk hZ hown hnm e0
  replace hown : s.vm.findClass "java/util/ArrayList$Itr" = some m.cls := hown
  replace hnm : meth.name = "hasNext" := hnm
  have hml : c.maxLocals = 1 := hml
  have N0 := Fr.nil Z.heap.size
  have K0 := Keep.refl h0 []
  refine own_go (fun _ k => castTop (ef_hn_1_1 m a1) k) ?_
  show own_Go p e below s _ _ _ (T.setTop (mkF m 0 #[rv a1] []))
  refine own_go (fun _ k => XS.aloadN X0.here hx rfl (hb hby d9_0) rfl rfl k) ?_
  obtain ⟨T1, X1, e1, st1⟩ := getF X0 hx hZ hown (host := "") (Or.inl (ow91 hw)) Via.refl e0 (fp1.keep K0 nin0) (g := (mkF m 1 #[rv a1] [(.ref a1)])) rfl rfl (hb hby d9_1)
  refine own_go st1 ?_
  clear st1 X0 e0
  refine own_go (fun _ k => XS.aloadN X1.here hx rfl (hb hby d9_4) rfl rfl k) ?_
  obtain ⟨T2, X2, e2, st2⟩ := getF X1 hx hZ hown (host := "") (Or.inl (ow73 hw)) Via.refl e1 (fp0.keep K0 nin0) (g := (mkF m 5 #[rv a1] [(.ref a1), (.int (1 : Int32))])) rfl rfl (hb hby d9_5)
  refine own_go st2 ?_
  clear st2 X1 e1
  obtain ⟨T3, X3, e3, st3⟩ := getF X2 hx hZ hown (Or.inr (ow93 hw)) Via.refl e2 (fp2.keep K0 nin0) (g := (mkF m 8 #[rv a1] [(.ref a2), (.int (1 : Int32))])) rfl rfl (hb hby d9_8)
  refine own_go st3 ?_
  clear st3 X2 e2
  refine own_go (fun _ k => XS.icmpYes X3.here hx rfl (pc0 := 11) (pc' := 18) rfl (hb hby d9_11) rfl (teq (by decide : (1 : Int32) = (1 : Int32))).1 (by decide) (by decide) k) ?_
  refine own_go (fun _ k => XS.iconst X3.here hx rfl (hb hby d9_18) k) ?_
  show own_Go p e below s _ _ _ (T3.setTop (mkF m 19 #[rv a1] [(.int (0 : Int32))]))
  refine own_retN X3 hx hlk e3 (t := .boolean) hret (by simp) (hb hby d9_19) (by show _ ≤ 0; omega) (by show _ ≤ 0; omega) ?_
  exact ⟨rfl, N0, rfl⟩
def Q_hn_2_0 (Z : State) (wd : Addr) (kd : ClassId) (a1 : Addr) (a2 : Addr) (h0 : Heap) (v : Option Value) (h : Heap) (L : List Loc) : Prop := (v = some (.int (1 : Int32)) ∧ Fr Z.heap.size L ∧ h = h0)
theorem ef_hn_2_0 (m : MethodId) (x0 : Addr) : entryFrame m #[(.ref x0)] 1 = mkF m 0 #[rv x0] [] := by first | (simp [entryFrame, mkF, argsToLocals, Value.category]; done) | rfl
set_option maxRecDepth 65536 in
set_option maxHeartbeats 40000000 in
theorem rm_hn_2_0 (l : Launch) (Z : State) (a0 : Array Value) (hw : ∀ d ∈ tables_1, d.before a0 Z = true) {wd : Addr} {kd : ClassId} (oDE : Sta Z Z.heap "java/util/ArrayList" "DEFAULTCAPACITY_EMPTY_ELEMENTDATA" "[Ljava/lang/Object;" (.ref wd)) (oDV : Arv Z Z.heap wd kd (.object "java/lang/Object") (0 : Int32) [] .null) (ws : List Jvm.Cond) (a1 : Addr) (a2 : Addr) (h0 : Heap) (O0 : Ext Z.heap h0) (fp0 : Fld Z h0 a1 "java/util/ArrayList$Itr" "this$0" "Ljava/util/ArrayList;" (.ref a2)) (fp1 : Fld Z h0 a1 "java/util/ArrayList$Itr" "cursor" "I" (.int (0 : Int32))) (fp2 : Fld Z h0 a2 "java/util/ArrayList" "size" "I" (.int (2 : Int32))) :
    own_MF l Z h0 (⟨"java/util/ArrayList$Itr", "hasNext", "()Z"⟩ : MethodName) jdk_49_method_2_code 1 (some .boolean) ({ frames := 0, cells := 0, slots := 0, locals := 0 } : Room) #[(.ref a1)] (Q_hn_2_0 Z wd kd a1 a2 h0) ws := by
  refine own_met (Q := (Q_hn_2_0 Z wd kd a1 a2 h0)) _ _ (plainFor_of_name own_pn_6) ?_
  intro p e s m below meth c T X0 hx hby hml hret hlk hZ hown hnm e0
  replace hown : s.vm.findClass "java/util/ArrayList$Itr" = some m.cls := hown
  replace hnm : meth.name = "hasNext" := hnm
  have hml : c.maxLocals = 1 := hml
  have N0 := Fr.nil Z.heap.size
  have K0 := Keep.refl h0 []
  refine own_go (fun _ k => castTop (ef_hn_2_0 m a1) k) ?_
  show own_Go p e below s _ _ _ (T.setTop (mkF m 0 #[rv a1] []))
  refine own_go (fun _ k => XS.aloadN X0.here hx rfl (hb hby d9_0) rfl rfl k) ?_
  obtain ⟨T1, X1, e1, st1⟩ := getF X0 hx hZ hown (host := "") (Or.inl (ow91 hw)) Via.refl e0 (fp1.keep K0 nin0) (g := (mkF m 1 #[rv a1] [(.ref a1)])) rfl rfl (hb hby d9_1)
  refine own_go st1 ?_
  clear st1 X0 e0
  refine own_go (fun _ k => XS.aloadN X1.here hx rfl (hb hby d9_4) rfl rfl k) ?_
  obtain ⟨T2, X2, e2, st2⟩ := getF X1 hx hZ hown (host := "") (Or.inl (ow73 hw)) Via.refl e1 (fp0.keep K0 nin0) (g := (mkF m 5 #[rv a1] [(.ref a1), (.int (0 : Int32))])) rfl rfl (hb hby d9_5)
  refine own_go st2 ?_
  clear st2 X1 e1
  obtain ⟨T3, X3, e3, st3⟩ := getF X2 hx hZ hown (Or.inr (ow93 hw)) Via.refl e2 (fp2.keep K0 nin0) (g := (mkF m 8 #[rv a1] [(.ref a2), (.int (0 : Int32))])) rfl rfl (hb hby d9_8)
  refine own_go st3 ?_
  clear st3 X2 e2
  refine own_go (fun _ k => XS.icmpNo X3.here hx rfl (hb hby d9_11) rfl (feq (by decide : ¬ ((0 : Int32) = (2 : Int32)))).1 k) ?_
  refine own_go (fun _ k => XS.iconst X3.here hx rfl (hb hby d9_14) k) ?_
  show own_Go p e below s _ _ _ (T3.setTop (mkF m 15 #[rv a1] [(.int (1 : Int32))]))
  refine own_go (fun _ k => XS.goto X3.here hx rfl (pc0 := 15) (pc' := 19) rfl (hb hby d9_15) (by decide) (by decide) k) ?_
  show own_Go p e below s _ _ _ (T3.setTop (mkF m 19 #[rv a1] [(.int (1 : Int32))]))
  refine own_retN X3 hx hlk e3 (t := .boolean) hret (by simp) (hb hby d9_19) (by show _ ≤ 0; omega) (by show _ ≤ 0; omega) ?_
  exact ⟨rfl, N0, rfl⟩
def Q_hn_2_1 (Z : State) (wd : Addr) (kd : ClassId) (a1 : Addr) (a2 : Addr) (h0 : Heap) (v : Option Value) (h : Heap) (L : List Loc) : Prop := (v = some (.int (1 : Int32)) ∧ Fr Z.heap.size L ∧ h = h0)
theorem ef_hn_2_1 (m : MethodId) (x0 : Addr) : entryFrame m #[(.ref x0)] 1 = mkF m 0 #[rv x0] [] := by first | (simp [entryFrame, mkF, argsToLocals, Value.category]; done) | rfl
set_option maxRecDepth 65536 in
set_option maxHeartbeats 40000000 in
theorem rm_hn_2_1 (l : Launch) (Z : State) (a0 : Array Value) (hw : ∀ d ∈ tables_1, d.before a0 Z = true) {wd : Addr} {kd : ClassId} (oDE : Sta Z Z.heap "java/util/ArrayList" "DEFAULTCAPACITY_EMPTY_ELEMENTDATA" "[Ljava/lang/Object;" (.ref wd)) (oDV : Arv Z Z.heap wd kd (.object "java/lang/Object") (0 : Int32) [] .null) (ws : List Jvm.Cond) (a1 : Addr) (a2 : Addr) (h0 : Heap) (O0 : Ext Z.heap h0) (fp0 : Fld Z h0 a1 "java/util/ArrayList$Itr" "this$0" "Ljava/util/ArrayList;" (.ref a2)) (fp1 : Fld Z h0 a1 "java/util/ArrayList$Itr" "cursor" "I" (.int (1 : Int32))) (fp2 : Fld Z h0 a2 "java/util/ArrayList" "size" "I" (.int (2 : Int32))) :
    own_MF l Z h0 (⟨"java/util/ArrayList$Itr", "hasNext", "()Z"⟩ : MethodName) jdk_49_method_2_code 1 (some .boolean) ({ frames := 0, cells := 0, slots := 0, locals := 0 } : Room) #[(.ref a1)] (Q_hn_2_1 Z wd kd a1 a2 h0) ws := by
  refine own_met (Q := (Q_hn_2_1 Z wd kd a1 a2 h0)) _ _ (plainFor_of_name own_pn_6) ?_
  intro p e s m below meth c T X0 hx hby hml hret hlk hZ hown hnm e0
  replace hown : s.vm.findClass "java/util/ArrayList$Itr" = some m.cls := hown
  replace hnm : meth.name = "hasNext" := hnm
  have hml : c.maxLocals = 1 := hml
  have N0 := Fr.nil Z.heap.size
  have K0 := Keep.refl h0 []
  refine own_go (fun _ k => castTop (ef_hn_2_1 m a1) k) ?_
  show own_Go p e below s _ _ _ (T.setTop (mkF m 0 #[rv a1] []))
  refine own_go (fun _ k => XS.aloadN X0.here hx rfl (hb hby d9_0) rfl rfl k) ?_
  obtain ⟨T1, X1, e1, st1⟩ := getF X0 hx hZ hown (host := "") (Or.inl (ow91 hw)) Via.refl e0 (fp1.keep K0 nin0) (g := (mkF m 1 #[rv a1] [(.ref a1)])) rfl rfl (hb hby d9_1)
  refine own_go st1 ?_
  clear st1 X0 e0
  refine own_go (fun _ k => XS.aloadN X1.here hx rfl (hb hby d9_4) rfl rfl k) ?_
  obtain ⟨T2, X2, e2, st2⟩ := getF X1 hx hZ hown (host := "") (Or.inl (ow73 hw)) Via.refl e1 (fp0.keep K0 nin0) (g := (mkF m 5 #[rv a1] [(.ref a1), (.int (1 : Int32))])) rfl rfl (hb hby d9_5)
  refine own_go st2 ?_
  clear st2 X1 e1
  obtain ⟨T3, X3, e3, st3⟩ := getF X2 hx hZ hown (Or.inr (ow93 hw)) Via.refl e2 (fp2.keep K0 nin0) (g := (mkF m 8 #[rv a1] [(.ref a2), (.int (1 : Int32))])) rfl rfl (hb hby d9_8)
  refine own_go st3 ?_
  clear st3 X2 e2
  refine own_go (fun _ k => XS.icmpNo X3.here hx rfl (hb hby d9_11) rfl (feq (by decide : ¬ ((1 : Int32) = (2 : Int32)))).1 k) ?_
  refine own_go (fun _ k => XS.iconst X3.here hx rfl (hb hby d9_14) k) ?_
  show own_Go p e below s _ _ _ (T3.setTop (mkF m 15 #[rv a1] [(.int (1 : Int32))]))
  refine own_go (fun _ k => XS.goto X3.here hx rfl (pc0 := 15) (pc' := 19) rfl (hb hby d9_15) (by decide) (by decide) k) ?_
  show own_Go p e below s _ _ _ (T3.setTop (mkF m 19 #[rv a1] [(.int (1 : Int32))]))
  refine own_retN X3 hx hlk e3 (t := .boolean) hret (by simp) (hb hby d9_19) (by show _ ≤ 0; omega) (by show _ ≤ 0; omega) ?_
  exact ⟨rfl, N0, rfl⟩
def Q_hn_2_2 (Z : State) (wd : Addr) (kd : ClassId) (a1 : Addr) (a2 : Addr) (h0 : Heap) (v : Option Value) (h : Heap) (L : List Loc) : Prop := (v = some (.int (0 : Int32)) ∧ Fr Z.heap.size L ∧ h = h0)
theorem ef_hn_2_2 (m : MethodId) (x0 : Addr) : entryFrame m #[(.ref x0)] 1 = mkF m 0 #[rv x0] [] := by first | (simp [entryFrame, mkF, argsToLocals, Value.category]; done) | rfl
set_option maxRecDepth 65536 in
set_option maxHeartbeats 40000000 in
theorem rm_hn_2_2 (l : Launch) (Z : State) (a0 : Array Value) (hw : ∀ d ∈ tables_1, d.before a0 Z = true) {wd : Addr} {kd : ClassId} (oDE : Sta Z Z.heap "java/util/ArrayList" "DEFAULTCAPACITY_EMPTY_ELEMENTDATA" "[Ljava/lang/Object;" (.ref wd)) (oDV : Arv Z Z.heap wd kd (.object "java/lang/Object") (0 : Int32) [] .null) (ws : List Jvm.Cond) (a1 : Addr) (a2 : Addr) (h0 : Heap) (O0 : Ext Z.heap h0) (fp0 : Fld Z h0 a1 "java/util/ArrayList$Itr" "this$0" "Ljava/util/ArrayList;" (.ref a2)) (fp1 : Fld Z h0 a1 "java/util/ArrayList$Itr" "cursor" "I" (.int (2 : Int32))) (fp2 : Fld Z h0 a2 "java/util/ArrayList" "size" "I" (.int (2 : Int32))) :
    own_MF l Z h0 (⟨"java/util/ArrayList$Itr", "hasNext", "()Z"⟩ : MethodName) jdk_49_method_2_code 1 (some .boolean) ({ frames := 0, cells := 0, slots := 0, locals := 0 } : Room) #[(.ref a1)] (Q_hn_2_2 Z wd kd a1 a2 h0) ws := by
  refine own_met (Q := (Q_hn_2_2 Z wd kd a1 a2 h0)) _ _ (plainFor_of_name own_pn_6) ?_
  intro p e s m below meth c T X0 hx hby hml hret hlk hZ hown hnm e0
  replace hown : s.vm.findClass "java/util/ArrayList$Itr" = some m.cls := hown
  replace hnm : meth.name = "hasNext" := hnm
  have hml : c.maxLocals = 1 := hml
  have N0 := Fr.nil Z.heap.size
  have K0 := Keep.refl h0 []
  refine own_go (fun _ k => castTop (ef_hn_2_2 m a1) k) ?_
  show own_Go p e below s _ _ _ (T.setTop (mkF m 0 #[rv a1] []))
  refine own_go (fun _ k => XS.aloadN X0.here hx rfl (hb hby d9_0) rfl rfl k) ?_
  obtain ⟨T1, X1, e1, st1⟩ := getF X0 hx hZ hown (host := "") (Or.inl (ow91 hw)) Via.refl e0 (fp1.keep K0 nin0) (g := (mkF m 1 #[rv a1] [(.ref a1)])) rfl rfl (hb hby d9_1)
  refine own_go st1 ?_
  clear st1 X0 e0
  refine own_go (fun _ k => XS.aloadN X1.here hx rfl (hb hby d9_4) rfl rfl k) ?_
  obtain ⟨T2, X2, e2, st2⟩ := getF X1 hx hZ hown (host := "") (Or.inl (ow73 hw)) Via.refl e1 (fp0.keep K0 nin0) (g := (mkF m 5 #[rv a1] [(.ref a1), (.int (2 : Int32))])) rfl rfl (hb hby d9_5)
  refine own_go st2 ?_
  clear st2 X1 e1
  obtain ⟨T3, X3, e3, st3⟩ := getF X2 hx hZ hown (Or.inr (ow93 hw)) Via.refl e2 (fp2.keep K0 nin0) (g := (mkF m 8 #[rv a1] [(.ref a2), (.int (2 : Int32))])) rfl rfl (hb hby d9_8)
  refine own_go st3 ?_
  clear st3 X2 e2
  refine own_go (fun _ k => XS.icmpYes X3.here hx rfl (pc0 := 11) (pc' := 18) rfl (hb hby d9_11) rfl (teq (by decide : (2 : Int32) = (2 : Int32))).1 (by decide) (by decide) k) ?_
  refine own_go (fun _ k => XS.iconst X3.here hx rfl (hb hby d9_18) k) ?_
  show own_Go p e below s _ _ _ (T3.setTop (mkF m 19 #[rv a1] [(.int (0 : Int32))]))
  refine own_retN X3 hx hlk e3 (t := .boolean) hret (by simp) (hb hby d9_19) (by show _ ≤ 0; omega) (by show _ ≤ 0; omega) ?_
  exact ⟨rfl, N0, rfl⟩
def Q_hn_3_0 (Z : State) (wd : Addr) (kd : ClassId) (a1 : Addr) (a2 : Addr) (h0 : Heap) (v : Option Value) (h : Heap) (L : List Loc) : Prop := (v = some (.int (1 : Int32)) ∧ Fr Z.heap.size L ∧ h = h0)
theorem ef_hn_3_0 (m : MethodId) (x0 : Addr) : entryFrame m #[(.ref x0)] 1 = mkF m 0 #[rv x0] [] := by first | (simp [entryFrame, mkF, argsToLocals, Value.category]; done) | rfl
set_option maxRecDepth 65536 in
set_option maxHeartbeats 40000000 in
theorem rm_hn_3_0 (l : Launch) (Z : State) (a0 : Array Value) (hw : ∀ d ∈ tables_1, d.before a0 Z = true) {wd : Addr} {kd : ClassId} (oDE : Sta Z Z.heap "java/util/ArrayList" "DEFAULTCAPACITY_EMPTY_ELEMENTDATA" "[Ljava/lang/Object;" (.ref wd)) (oDV : Arv Z Z.heap wd kd (.object "java/lang/Object") (0 : Int32) [] .null) (ws : List Jvm.Cond) (a1 : Addr) (a2 : Addr) (h0 : Heap) (O0 : Ext Z.heap h0) (fp0 : Fld Z h0 a1 "java/util/ArrayList$Itr" "this$0" "Ljava/util/ArrayList;" (.ref a2)) (fp1 : Fld Z h0 a1 "java/util/ArrayList$Itr" "cursor" "I" (.int (0 : Int32))) (fp2 : Fld Z h0 a2 "java/util/ArrayList" "size" "I" (.int (3 : Int32))) :
    own_MF l Z h0 (⟨"java/util/ArrayList$Itr", "hasNext", "()Z"⟩ : MethodName) jdk_49_method_2_code 1 (some .boolean) ({ frames := 0, cells := 0, slots := 0, locals := 0 } : Room) #[(.ref a1)] (Q_hn_3_0 Z wd kd a1 a2 h0) ws := by
  refine own_met (Q := (Q_hn_3_0 Z wd kd a1 a2 h0)) _ _ (plainFor_of_name own_pn_6) ?_
  intro p e s m below meth c T X0 hx hby hml hret hlk hZ hown hnm e0
  replace hown : s.vm.findClass "java/util/ArrayList$Itr" = some m.cls := hown
  replace hnm : meth.name = "hasNext" := hnm
  have hml : c.maxLocals = 1 := hml
  have N0 := Fr.nil Z.heap.size
  have K0 := Keep.refl h0 []
  refine own_go (fun _ k => castTop (ef_hn_3_0 m a1) k) ?_
  show own_Go p e below s _ _ _ (T.setTop (mkF m 0 #[rv a1] []))
  refine own_go (fun _ k => XS.aloadN X0.here hx rfl (hb hby d9_0) rfl rfl k) ?_
  obtain ⟨T1, X1, e1, st1⟩ := getF X0 hx hZ hown (host := "") (Or.inl (ow91 hw)) Via.refl e0 (fp1.keep K0 nin0) (g := (mkF m 1 #[rv a1] [(.ref a1)])) rfl rfl (hb hby d9_1)
  refine own_go st1 ?_
  clear st1 X0 e0
  refine own_go (fun _ k => XS.aloadN X1.here hx rfl (hb hby d9_4) rfl rfl k) ?_
  obtain ⟨T2, X2, e2, st2⟩ := getF X1 hx hZ hown (host := "") (Or.inl (ow73 hw)) Via.refl e1 (fp0.keep K0 nin0) (g := (mkF m 5 #[rv a1] [(.ref a1), (.int (0 : Int32))])) rfl rfl (hb hby d9_5)
  refine own_go st2 ?_
  clear st2 X1 e1
  obtain ⟨T3, X3, e3, st3⟩ := getF X2 hx hZ hown (Or.inr (ow93 hw)) Via.refl e2 (fp2.keep K0 nin0) (g := (mkF m 8 #[rv a1] [(.ref a2), (.int (0 : Int32))])) rfl rfl (hb hby d9_8)
  refine own_go st3 ?_
  clear st3 X2 e2
  refine own_go (fun _ k => XS.icmpNo X3.here hx rfl (hb hby d9_11) rfl (feq (by decide : ¬ ((0 : Int32) = (3 : Int32)))).1 k) ?_
  refine own_go (fun _ k => XS.iconst X3.here hx rfl (hb hby d9_14) k) ?_
  show own_Go p e below s _ _ _ (T3.setTop (mkF m 15 #[rv a1] [(.int (1 : Int32))]))
  refine own_go (fun _ k => XS.goto X3.here hx rfl (pc0 := 15) (pc' := 19) rfl (hb hby d9_15) (by decide) (by decide) k) ?_
  show own_Go p e below s _ _ _ (T3.setTop (mkF m 19 #[rv a1] [(.int (1 : Int32))]))
  refine own_retN X3 hx hlk e3 (t := .boolean) hret (by simp) (hb hby d9_19) (by show _ ≤ 0; omega) (by show _ ≤ 0; omega) ?_
  exact ⟨rfl, N0, rfl⟩
def Q_hn_3_1 (Z : State) (wd : Addr) (kd : ClassId) (a1 : Addr) (a2 : Addr) (h0 : Heap) (v : Option Value) (h : Heap) (L : List Loc) : Prop := (v = some (.int (1 : Int32)) ∧ Fr Z.heap.size L ∧ h = h0)
theorem ef_hn_3_1 (m : MethodId) (x0 : Addr) : entryFrame m #[(.ref x0)] 1 = mkF m 0 #[rv x0] [] := by first | (simp [entryFrame, mkF, argsToLocals, Value.category]; done) | rfl
set_option maxRecDepth 65536 in
set_option maxHeartbeats 40000000 in
theorem rm_hn_3_1 (l : Launch) (Z : State) (a0 : Array Value) (hw : ∀ d ∈ tables_1, d.before a0 Z = true) {wd : Addr} {kd : ClassId} (oDE : Sta Z Z.heap "java/util/ArrayList" "DEFAULTCAPACITY_EMPTY_ELEMENTDATA" "[Ljava/lang/Object;" (.ref wd)) (oDV : Arv Z Z.heap wd kd (.object "java/lang/Object") (0 : Int32) [] .null) (ws : List Jvm.Cond) (a1 : Addr) (a2 : Addr) (h0 : Heap) (O0 : Ext Z.heap h0) (fp0 : Fld Z h0 a1 "java/util/ArrayList$Itr" "this$0" "Ljava/util/ArrayList;" (.ref a2)) (fp1 : Fld Z h0 a1 "java/util/ArrayList$Itr" "cursor" "I" (.int (1 : Int32))) (fp2 : Fld Z h0 a2 "java/util/ArrayList" "size" "I" (.int (3 : Int32))) :
    own_MF l Z h0 (⟨"java/util/ArrayList$Itr", "hasNext", "()Z"⟩ : MethodName) jdk_49_method_2_code 1 (some .boolean) ({ frames := 0, cells := 0, slots := 0, locals := 0 } : Room) #[(.ref a1)] (Q_hn_3_1 Z wd kd a1 a2 h0) ws := by
  refine own_met (Q := (Q_hn_3_1 Z wd kd a1 a2 h0)) _ _ (plainFor_of_name own_pn_6) ?_
  intro p e s m below meth c T X0 hx hby hml hret hlk hZ hown hnm e0
  replace hown : s.vm.findClass "java/util/ArrayList$Itr" = some m.cls := hown
  replace hnm : meth.name = "hasNext" := hnm
  have hml : c.maxLocals = 1 := hml
  have N0 := Fr.nil Z.heap.size
  have K0 := Keep.refl h0 []
  refine own_go (fun _ k => castTop (ef_hn_3_1 m a1) k) ?_
  show own_Go p e below s _ _ _ (T.setTop (mkF m 0 #[rv a1] []))
  refine own_go (fun _ k => XS.aloadN X0.here hx rfl (hb hby d9_0) rfl rfl k) ?_
  obtain ⟨T1, X1, e1, st1⟩ := getF X0 hx hZ hown (host := "") (Or.inl (ow91 hw)) Via.refl e0 (fp1.keep K0 nin0) (g := (mkF m 1 #[rv a1] [(.ref a1)])) rfl rfl (hb hby d9_1)
  refine own_go st1 ?_
  clear st1 X0 e0
  refine own_go (fun _ k => XS.aloadN X1.here hx rfl (hb hby d9_4) rfl rfl k) ?_
  obtain ⟨T2, X2, e2, st2⟩ := getF X1 hx hZ hown (host := "") (Or.inl (ow73 hw)) Via.refl e1 (fp0.keep K0 nin0) (g := (mkF m 5 #[rv a1] [(.ref a1), (.int (1 : Int32))])) rfl rfl (hb hby d9_5)
  refine own_go st2 ?_
  clear st2 X1 e1
  obtain ⟨T3, X3, e3, st3⟩ := getF X2 hx hZ hown (Or.inr (ow93 hw)) Via.refl e2 (fp2.keep K0 nin0) (g := (mkF m 8 #[rv a1] [(.ref a2), (.int (1 : Int32))])) rfl rfl (hb hby d9_8)
  refine own_go st3 ?_
  clear st3 X2 e2
  refine own_go (fun _ k => XS.icmpNo X3.here hx rfl (hb hby d9_11) rfl (feq (by decide : ¬ ((1 : Int32) = (3 : Int32)))).1 k) ?_
  refine own_go (fun _ k => XS.iconst X3.here hx rfl (hb hby d9_14) k) ?_
  show own_Go p e below s _ _ _ (T3.setTop (mkF m 15 #[rv a1] [(.int (1 : Int32))]))
  refine own_go (fun _ k => XS.goto X3.here hx rfl (pc0 := 15) (pc' := 19) rfl (hb hby d9_15) (by decide) (by decide) k) ?_
  show own_Go p e below s _ _ _ (T3.setTop (mkF m 19 #[rv a1] [(.int (1 : Int32))]))
  refine own_retN X3 hx hlk e3 (t := .boolean) hret (by simp) (hb hby d9_19) (by show _ ≤ 0; omega) (by show _ ≤ 0; omega) ?_
  exact ⟨rfl, N0, rfl⟩
def Q_hn_3_2 (Z : State) (wd : Addr) (kd : ClassId) (a1 : Addr) (a2 : Addr) (h0 : Heap) (v : Option Value) (h : Heap) (L : List Loc) : Prop := (v = some (.int (1 : Int32)) ∧ Fr Z.heap.size L ∧ h = h0)
theorem ef_hn_3_2 (m : MethodId) (x0 : Addr) : entryFrame m #[(.ref x0)] 1 = mkF m 0 #[rv x0] [] := by first | (simp [entryFrame, mkF, argsToLocals, Value.category]; done) | rfl
set_option maxRecDepth 65536 in
set_option maxHeartbeats 40000000 in
theorem rm_hn_3_2 (l : Launch) (Z : State) (a0 : Array Value) (hw : ∀ d ∈ tables_1, d.before a0 Z = true) {wd : Addr} {kd : ClassId} (oDE : Sta Z Z.heap "java/util/ArrayList" "DEFAULTCAPACITY_EMPTY_ELEMENTDATA" "[Ljava/lang/Object;" (.ref wd)) (oDV : Arv Z Z.heap wd kd (.object "java/lang/Object") (0 : Int32) [] .null) (ws : List Jvm.Cond) (a1 : Addr) (a2 : Addr) (h0 : Heap) (O0 : Ext Z.heap h0) (fp0 : Fld Z h0 a1 "java/util/ArrayList$Itr" "this$0" "Ljava/util/ArrayList;" (.ref a2)) (fp1 : Fld Z h0 a1 "java/util/ArrayList$Itr" "cursor" "I" (.int (2 : Int32))) (fp2 : Fld Z h0 a2 "java/util/ArrayList" "size" "I" (.int (3 : Int32))) :
    own_MF l Z h0 (⟨"java/util/ArrayList$Itr", "hasNext", "()Z"⟩ : MethodName) jdk_49_method_2_code 1 (some .boolean) ({ frames := 0, cells := 0, slots := 0, locals := 0 } : Room) #[(.ref a1)] (Q_hn_3_2 Z wd kd a1 a2 h0) ws := by
  refine own_met (Q := (Q_hn_3_2 Z wd kd a1 a2 h0)) _ _ (plainFor_of_name own_pn_6) ?_
  intro p e s m below meth c T X0 hx hby hml hret hlk hZ hown hnm e0
  replace hown : s.vm.findClass "java/util/ArrayList$Itr" = some m.cls := hown
  replace hnm : meth.name = "hasNext" := hnm
  have hml : c.maxLocals = 1 := hml
  have N0 := Fr.nil Z.heap.size
  have K0 := Keep.refl h0 []
  refine own_go (fun _ k => castTop (ef_hn_3_2 m a1) k) ?_
  show own_Go p e below s _ _ _ (T.setTop (mkF m 0 #[rv a1] []))
  refine own_go (fun _ k => XS.aloadN X0.here hx rfl (hb hby d9_0) rfl rfl k) ?_
  obtain ⟨T1, X1, e1, st1⟩ := getF X0 hx hZ hown (host := "") (Or.inl (ow91 hw)) Via.refl e0 (fp1.keep K0 nin0) (g := (mkF m 1 #[rv a1] [(.ref a1)])) rfl rfl (hb hby d9_1)
  refine own_go st1 ?_
  clear st1 X0 e0
  refine own_go (fun _ k => XS.aloadN X1.here hx rfl (hb hby d9_4) rfl rfl k) ?_
  obtain ⟨T2, X2, e2, st2⟩ := getF X1 hx hZ hown (host := "") (Or.inl (ow73 hw)) Via.refl e1 (fp0.keep K0 nin0) (g := (mkF m 5 #[rv a1] [(.ref a1), (.int (2 : Int32))])) rfl rfl (hb hby d9_5)
  refine own_go st2 ?_
  clear st2 X1 e1
  obtain ⟨T3, X3, e3, st3⟩ := getF X2 hx hZ hown (Or.inr (ow93 hw)) Via.refl e2 (fp2.keep K0 nin0) (g := (mkF m 8 #[rv a1] [(.ref a2), (.int (2 : Int32))])) rfl rfl (hb hby d9_8)
  refine own_go st3 ?_
  clear st3 X2 e2
  refine own_go (fun _ k => XS.icmpNo X3.here hx rfl (hb hby d9_11) rfl (feq (by decide : ¬ ((2 : Int32) = (3 : Int32)))).1 k) ?_
  refine own_go (fun _ k => XS.iconst X3.here hx rfl (hb hby d9_14) k) ?_
  show own_Go p e below s _ _ _ (T3.setTop (mkF m 15 #[rv a1] [(.int (1 : Int32))]))
  refine own_go (fun _ k => XS.goto X3.here hx rfl (pc0 := 15) (pc' := 19) rfl (hb hby d9_15) (by decide) (by decide) k) ?_
  show own_Go p e below s _ _ _ (T3.setTop (mkF m 19 #[rv a1] [(.int (1 : Int32))]))
  refine own_retN X3 hx hlk e3 (t := .boolean) hret (by simp) (hb hby d9_19) (by show _ ≤ 0; omega) (by show _ ≤ 0; omega) ?_
  exact ⟨rfl, N0, rfl⟩
def Q_hn_3_3 (Z : State) (wd : Addr) (kd : ClassId) (a1 : Addr) (a2 : Addr) (h0 : Heap) (v : Option Value) (h : Heap) (L : List Loc) : Prop := (v = some (.int (0 : Int32)) ∧ Fr Z.heap.size L ∧ h = h0)
theorem ef_hn_3_3 (m : MethodId) (x0 : Addr) : entryFrame m #[(.ref x0)] 1 = mkF m 0 #[rv x0] [] := by first | (simp [entryFrame, mkF, argsToLocals, Value.category]; done) | rfl
set_option maxRecDepth 65536 in
set_option maxHeartbeats 40000000 in
theorem rm_hn_3_3 (l : Launch) (Z : State) (a0 : Array Value) (hw : ∀ d ∈ tables_1, d.before a0 Z = true) {wd : Addr} {kd : ClassId} (oDE : Sta Z Z.heap "java/util/ArrayList" "DEFAULTCAPACITY_EMPTY_ELEMENTDATA" "[Ljava/lang/Object;" (.ref wd)) (oDV : Arv Z Z.heap wd kd (.object "java/lang/Object") (0 : Int32) [] .null) (ws : List Jvm.Cond) (a1 : Addr) (a2 : Addr) (h0 : Heap) (O0 : Ext Z.heap h0) (fp0 : Fld Z h0 a1 "java/util/ArrayList$Itr" "this$0" "Ljava/util/ArrayList;" (.ref a2)) (fp1 : Fld Z h0 a1 "java/util/ArrayList$Itr" "cursor" "I" (.int (3 : Int32))) (fp2 : Fld Z h0 a2 "java/util/ArrayList" "size" "I" (.int (3 : Int32))) :
    own_MF l Z h0 (⟨"java/util/ArrayList$Itr", "hasNext", "()Z"⟩ : MethodName) jdk_49_method_2_code 1 (some .boolean) ({ frames := 0, cells := 0, slots := 0, locals := 0 } : Room) #[(.ref a1)] (Q_hn_3_3 Z wd kd a1 a2 h0) ws := by
  refine own_met (Q := (Q_hn_3_3 Z wd kd a1 a2 h0)) _ _ (plainFor_of_name own_pn_6) ?_
  intro p e s m below meth c T X0 hx hby hml hret hlk hZ hown hnm e0
  replace hown : s.vm.findClass "java/util/ArrayList$Itr" = some m.cls := hown
  replace hnm : meth.name = "hasNext" := hnm
  have hml : c.maxLocals = 1 := hml
  have N0 := Fr.nil Z.heap.size
  have K0 := Keep.refl h0 []
  refine own_go (fun _ k => castTop (ef_hn_3_3 m a1) k) ?_
  show own_Go p e below s _ _ _ (T.setTop (mkF m 0 #[rv a1] []))
  refine own_go (fun _ k => XS.aloadN X0.here hx rfl (hb hby d9_0) rfl rfl k) ?_
  obtain ⟨T1, X1, e1, st1⟩ := getF X0 hx hZ hown (host := "") (Or.inl (ow91 hw)) Via.refl e0 (fp1.keep K0 nin0) (g := (mkF m 1 #[rv a1] [(.ref a1)])) rfl rfl (hb hby d9_1)
  refine own_go st1 ?_
  clear st1 X0 e0
  refine own_go (fun _ k => XS.aloadN X1.here hx rfl (hb hby d9_4) rfl rfl k) ?_
  obtain ⟨T2, X2, e2, st2⟩ := getF X1 hx hZ hown (host := "") (Or.inl (ow73 hw)) Via.refl e1 (fp0.keep K0 nin0) (g := (mkF m 5 #[rv a1] [(.ref a1), (.int (3 : Int32))])) rfl rfl (hb hby d9_5)
  refine own_go st2 ?_
  clear st2 X1 e1
  obtain ⟨T3, X3, e3, st3⟩ := getF X2 hx hZ hown (Or.inr (ow93 hw)) Via.refl e2 (fp2.keep K0 nin0) (g := (mkF m 8 #[rv a1] [(.ref a2), (.int (3 : Int32))])) rfl rfl (hb hby d9_8)
  refine own_go st3 ?_
  clear st3 X2 e2
  refine own_go (fun _ k => XS.icmpYes X3.here hx rfl (pc0 := 11) (pc' := 18) rfl (hb hby d9_11) rfl (teq (by decide : (3 : Int32) = (3 : Int32))).1 (by decide) (by decide) k) ?_
  refine own_go (fun _ k => XS.iconst X3.here hx rfl (hb hby d9_18) k) ?_
  show own_Go p e below s _ _ _ (T3.setTop (mkF m 19 #[rv a1] [(.int (0 : Int32))]))
  refine own_retN X3 hx hlk e3 (t := .boolean) hret (by simp) (hb hby d9_19) (by show _ ≤ 0; omega) (by show _ ≤ 0; omega) ?_
  exact ⟨rfl, N0, rfl⟩
theorem d22_0 : decode jdk_49_method_6_code 0 = .ok (.aload_n 0, 1) := by decide +kernel
theorem d22_1 : decode jdk_49_method_6_code 1 = .ok (.getfield 1, 3) := by decide +kernel
theorem d22_4 : decode jdk_49_method_6_code 4 = .ok (.getfield 17, 3) := by decide +kernel
theorem d22_7 : decode jdk_49_method_6_code 7 = .ok (.aload_n 0, 1) := by decide +kernel
theorem d22_8 : decode jdk_49_method_6_code 8 = .ok (.getfield 22, 3) := by decide +kernel
theorem d22_11 : decode jdk_49_method_6_code 11 = .ok (.if_icmp .eq 11, 3) := by decide +kernel
theorem d22_22 : decode jdk_49_method_6_code 22 = .ok (.return_, 1) := by decide +kernel
def Q_cfc (Z : State) (wd : Addr) (kd : ClassId) (a1 : Addr) (a2 : Addr) (mc : Int32) (h0 : Heap) (v : Option Value) (h : Heap) (L : List Loc) : Prop := (v = none ∧ Fr Z.heap.size L ∧ h = h0)
theorem ef_cfc (m : MethodId) (x0 : Addr) : entryFrame m #[(.ref x0)] 1 = mkF m 0 #[rv x0] [] := by first | (simp [entryFrame, mkF, argsToLocals, Value.category]; done) | rfl
set_option maxRecDepth 65536 in
set_option maxHeartbeats 40000000 in
theorem rm_cfc (l : Launch) (Z : State) (a0 : Array Value) (hw : ∀ d ∈ tables_1, d.before a0 Z = true) {wd : Addr} {kd : ClassId} (oDE : Sta Z Z.heap "java/util/ArrayList" "DEFAULTCAPACITY_EMPTY_ELEMENTDATA" "[Ljava/lang/Object;" (.ref wd)) (oDV : Arv Z Z.heap wd kd (.object "java/lang/Object") (0 : Int32) [] .null) (ws : List Jvm.Cond) (a1 : Addr) (a2 : Addr) (mc : Int32) (h0 : Heap) (O0 : Ext Z.heap h0) (fp0 : Fld Z h0 a1 "java/util/ArrayList$Itr" "this$0" "Ljava/util/ArrayList;" (.ref a2)) (fp1 : Fld Z h0 a1 "java/util/ArrayList$Itr" "expectedModCount" "I" (.int mc)) (fp2 : Fld Z h0 a2 "java/util/AbstractList" "modCount" "I" (.int mc)) :
    own_MF l Z h0 (⟨"java/util/ArrayList$Itr", "checkForComodification", "()V"⟩ : MethodName) jdk_49_method_6_code 1 none ({ frames := 0, cells := 0, slots := 0, locals := 0 } : Room) #[(.ref a1)] (Q_cfc Z wd kd a1 a2 mc h0) ws := by
  refine own_met (Q := (Q_cfc Z wd kd a1 a2 mc h0)) _ _ (plainFor_of_name own_pn_6) ?_
  intro p e s m below meth c T X0 hx hby hml hret hlk hZ hown hnm e0
  replace hown : s.vm.findClass "java/util/ArrayList$Itr" = some m.cls := hown
  replace hnm : meth.name = "checkForComodification" := hnm
  have hml : c.maxLocals = 1 := hml
  have N0 := Fr.nil Z.heap.size
  have K0 := Keep.refl h0 []
  refine own_go (fun _ k => castTop (ef_cfc m a1) k) ?_
  show own_Go p e below s _ _ _ (T.setTop (mkF m 0 #[rv a1] []))
  refine own_go (fun _ k => XS.aloadN X0.here hx rfl (hb hby d22_0) rfl rfl k) ?_
  obtain ⟨T1, X1, e1, st1⟩ := getF X0 hx hZ hown (host := "") (Or.inl (ow73 hw)) Via.refl e0 (fp0.keep K0 nin0) (g := (mkF m 1 #[rv a1] [(.ref a1)])) rfl rfl (hb hby d22_1)
  refine own_go st1 ?_
  clear st1 X0 e0
  obtain ⟨T2, X2, e2, st2⟩ := getF X1 hx hZ hown (host := "") (Or.inl (ow78 hw)) (Via.of (ow79 hw)) e1 (fp2.keep K0 nin0) (g := (mkF m 4 #[rv a1] [(.ref a2)])) rfl rfl (hb hby d22_4)
  refine own_go st2 ?_
  clear st2 X1 e1
  refine own_go (fun _ k => XS.aloadN X2.here hx rfl (hb hby d22_7) rfl rfl k) ?_
  obtain ⟨T3, X3, e3, st3⟩ := getF X2 hx hZ hown (host := "") (Or.inl (ow80 hw)) Via.refl e2 (fp1.keep K0 nin0) (g := (mkF m 8 #[rv a1] [(.ref a1), (.int mc)])) rfl rfl (hb hby d22_8)
  refine own_go st3 ?_
  clear st3 X2 e2
  refine own_go (fun _ k => XS.icmpYes X3.here hx rfl (pc0 := 11) (pc' := 22) rfl (hb hby d22_11) rfl (teq (rfl : mc = mc)).1 (by decide) (by decide) k) ?_
  show own_Go p e below s _ _ _ (T3.setTop (mkF m 22 #[rv a1] []))
  refine own_retV X3 hx hlk e3 hret (hb hby d22_22) (by show _ ≤ 0; omega) (by show _ ≤ 0; omega) ?_
  exact ⟨rfl, N0, rfl⟩
theorem d21_0 : decode jdk_49_method_3_code 0 = .ok (.aload_n 0, 1) := by decide +kernel
theorem d21_1 : decode jdk_49_method_3_code 1 = .ok (.invokevirtual 31, 3) := by decide +kernel
theorem d21_4 : decode jdk_49_method_3_code 4 = .ok (.aload_n 0, 1) := by decide +kernel
theorem d21_5 : decode jdk_49_method_3_code 5 = .ok (.getfield 25, 3) := by decide +kernel
theorem d21_8 : decode jdk_49_method_3_code 8 = .ok (.istore_n 1, 1) := by decide +kernel
theorem d21_9 : decode jdk_49_method_3_code 9 = .ok (.iload_n 1, 1) := by decide +kernel
theorem d21_10 : decode jdk_49_method_3_code 10 = .ok (.aload_n 0, 1) := by decide +kernel
theorem d21_11 : decode jdk_49_method_3_code 11 = .ok (.getfield 1, 3) := by decide +kernel
theorem d21_14 : decode jdk_49_method_3_code 14 = .ok (.getfield 28, 3) := by decide +kernel
theorem d21_17 : decode jdk_49_method_3_code 17 = .ok (.if_icmp .lt 11, 3) := by decide +kernel
theorem d21_28 : decode jdk_49_method_3_code 28 = .ok (.aload_n 0, 1) := by decide +kernel
theorem d21_29 : decode jdk_49_method_3_code 29 = .ok (.getfield 1, 3) := by decide +kernel
theorem d21_32 : decode jdk_49_method_3_code 32 = .ok (.getfield 37, 3) := by decide +kernel
theorem d21_35 : decode jdk_49_method_3_code 35 = .ok (.astore_n 2, 1) := by decide +kernel
theorem d21_36 : decode jdk_49_method_3_code 36 = .ok (.iload_n 1, 1) := by decide +kernel
theorem d21_37 : decode jdk_49_method_3_code 37 = .ok (.aload_n 2, 1) := by decide +kernel
theorem d21_38 : decode jdk_49_method_3_code 38 = .ok (.arraylength, 1) := by decide +kernel
theorem d21_39 : decode jdk_49_method_3_code 39 = .ok (.if_icmp .lt 11, 3) := by decide +kernel
theorem d21_50 : decode jdk_49_method_3_code 50 = .ok (.aload_n 0, 1) := by decide +kernel
theorem d21_51 : decode jdk_49_method_3_code 51 = .ok (.iload_n 1, 1) := by decide +kernel
theorem d21_52 : decode jdk_49_method_3_code 52 = .ok (.iconst 1, 1) := by decide +kernel
theorem d21_53 : decode jdk_49_method_3_code 53 = .ok (.iadd, 1) := by decide +kernel
theorem d21_54 : decode jdk_49_method_3_code 54 = .ok (.putfield 25, 3) := by decide +kernel
theorem d21_57 : decode jdk_49_method_3_code 57 = .ok (.aload_n 2, 1) := by decide +kernel
theorem d21_58 : decode jdk_49_method_3_code 58 = .ok (.aload_n 0, 1) := by decide +kernel
theorem d21_59 : decode jdk_49_method_3_code 59 = .ok (.iload_n 1, 1) := by decide +kernel
theorem d21_60 : decode jdk_49_method_3_code 60 = .ok (.dup_x1, 1) := by decide +kernel
theorem d21_61 : decode jdk_49_method_3_code 61 = .ok (.putfield 13, 3) := by decide +kernel
theorem d21_64 : decode jdk_49_method_3_code 64 = .ok (.aaload, 1) := by decide +kernel
theorem d21_65 : decode jdk_49_method_3_code 65 = .ok (.areturn, 1) := by decide +kernel
def Q_nx_1_0 (Z : State) (wd : Addr) (kd : ClassId) (a1 : Addr) (a2 : Addr) (mc : Int32) (lr : Int32) (b : Addr) (k : ClassId) (el1 : Addr) (h0 : Heap) (v : Option Value) (h : Heap) (L : List Loc) : Prop := (v = some (.ref el1) ∧ Fr Z.heap.size L ∧ Keep h0 h [a1] ∧ Exa Z h a1 "java/util/ArrayList$Itr" ∧ Fld Z h a1 "java/util/ArrayList$Itr" "this$0" "Ljava/util/ArrayList;" (.ref a2) ∧ Fld Z h a1 "java/util/ArrayList$Itr" "cursor" "I" (.int (1 : Int32)) ∧ Fld Z h a1 "java/util/ArrayList$Itr" "lastRet" "I" (.int (0 : Int32)) ∧ Fld Z h a1 "java/util/ArrayList$Itr" "expectedModCount" "I" (.int mc))
theorem ef_nx_1_0 (m : MethodId) (x0 : Addr) : entryFrame m #[(.ref x0)] 3 = mkF m 0 #[rv x0, .unset, .unset] [] := by first | (simp [entryFrame, mkF, argsToLocals, Value.category]; done) | rfl
set_option maxRecDepth 65536 in
set_option maxHeartbeats 40000000 in
theorem rm_nx_1_0 (l : Launch) (Z : State) (a0 : Array Value) (hw : ∀ d ∈ tables_1, d.before a0 Z = true) {wd : Addr} {kd : ClassId} (oDE : Sta Z Z.heap "java/util/ArrayList" "DEFAULTCAPACITY_EMPTY_ELEMENTDATA" "[Ljava/lang/Object;" (.ref wd)) (oDV : Arv Z Z.heap wd kd (.object "java/lang/Object") (0 : Int32) [] .null) (ws : List Jvm.Cond) (a1 : Addr) (a2 : Addr) (mc : Int32) (lr : Int32) (b : Addr) (k : ClassId) (el1 : Addr) (h0 : Heap) (O0 : Ext Z.heap h0) (fp0 : Exa Z h0 a1 "java/util/ArrayList$Itr") (fp1 : Fld Z h0 a1 "java/util/ArrayList$Itr" "this$0" "Ljava/util/ArrayList;" (.ref a2)) (fp2 : Fld Z h0 a1 "java/util/ArrayList$Itr" "cursor" "I" (.int (0 : Int32))) (fp3 : Fld Z h0 a1 "java/util/ArrayList$Itr" "lastRet" "I" (.int lr)) (fp4 : Fld Z h0 a1 "java/util/ArrayList$Itr" "expectedModCount" "I" (.int mc)) (fp5 : Exa Z h0 a2 "java/util/ArrayList") (fp6 : Fld Z h0 a2 "java/util/ArrayList" "size" "I" (.int (1 : Int32))) (fp7 : Fld Z h0 a2 "java/util/ArrayList" "elementData" "[Ljava/lang/Object;" (.ref b)) (fp8 : Fld Z h0 a2 "java/util/AbstractList" "modCount" "I" (.int mc)) (fp9 : Arv Z h0 b k (.object "java/lang/Object") (10 : Int32) [(.ref el1), .null, .null, .null, .null, .null, .null, .null, .null, .null] .null) (big_a1 : Z.heap.size ≤ a1) :
    own_MF l Z h0 (⟨"java/util/ArrayList$Itr", "next", "()Ljava/lang/Object;"⟩ : MethodName) jdk_49_method_3_code 3 (some (.object "java/lang/Object")) ({ frames := 1, cells := 0, slots := 0, locals := 12 } : Room) #[(.ref a1)] (Q_nx_1_0 Z wd kd a1 a2 mc lr b k el1 h0) ws := by
  refine own_met (Q := (Q_nx_1_0 Z wd kd a1 a2 mc lr b k el1 h0)) _ _ (plainFor_of_name own_pn_6) ?_
  intro p e s m below meth c T X0 hx hby hml hret hlk hZ hown hnm e0
  replace hown : s.vm.findClass "java/util/ArrayList$Itr" = some m.cls := hown
  replace hnm : meth.name = "next" := hnm
  have hml : c.maxLocals = 3 := hml
  have N0 := Fr.nil Z.heap.size
  have K0 := Keep.refl h0 [a1]
  refine own_go (fun _ k => castTop (ef_nx_1_0 m a1) k) ?_
  have ne1 : a2 ≠ a1 := (ne_exa fp5 fp0 (by decide))
  have ne2 : b ≠ a1 := (Ne.symm (Exa.neArv fp0 fp9 (ow67 hw)))
  show own_Go p e below s _ _ _ (T.setTop (mkF m 0 #[rv a1, .unset, .unset] []))
  refine own_go (fun _ k => XS.aloadN X0.here hx rfl (hb hby d21_0) rfl rfl k) ?_
  obtain ⟨v3, T3, L3, X3, hQ3, st3⟩ := own_callV (y := (⟨"java/util/ArrayList$Itr", "checkForComodification", "()V"⟩ : MethodName)) (z := (⟨"java/util/ArrayList$Itr", "checkForComodification", "()V"⟩ : MethodName)) X0 hx hZ hown (ow184 hw) (ow185 hw) (notFace_of_selects (args := #[]) (mvT hZ (ow187 hw))) (ow187 hw) (ow186 hw) (ow68 hw) (ow188 hw) (rm_cfc l Z a0 hw oDE oDV [] a1 a2 mc h0 O0 fp1 fp4 (fp8.keep K0 (ninS ne1 nin0))) 0 0 0 (by show _ ≤ 0; omega) (by show _ ≤ 0; omega) e0 fp0 (g := (mkF m 1 #[rv a1, .unset, .unset] [(.ref a1)])) rfl (by rw [hml]; rfl) [] [] (lenOf own_pd_0 rfl) rfl rfl (hb hby d21_1)
  obtain ⟨rfl, Nc5, Kc4⟩ := hQ3
  refine own_go st3 ?_
  clear st3 X0 e0
  replace N0 := Fr.app N0 Nc5
  clear Nc5
  refine own_go (fun _ k => XS.aloadN X3.here hx rfl (hb hby d21_4) rfl rfl k) ?_
  obtain ⟨T6, X6, e6, st6⟩ := getF X3 hx hZ hown (host := "") (Or.inl (ow91 hw)) Via.refl Kc4 fp2 (g := (mkF m 5 #[rv a1, .unset, .unset] [(.ref a1)])) rfl rfl (hb hby d21_5)
  refine own_go st6 ?_
  clear st6 X3 Kc4
  refine own_go (fun _ k => XS.istoreN X6.here hx rfl (hb hby d21_8) rfl (l' := #[rv a1, iv (0 : Int32), .unset]) rfl k) ?_
  refine own_go (fun _ k => XS.iloadN X6.here hx rfl (hb hby d21_9) rfl k) ?_
  refine own_go (fun _ k => XS.aloadN X6.here hx rfl (hb hby d21_10) rfl rfl k) ?_
  show own_Go p e below s _ _ _ (T6.setTop (mkF m 11 #[rv a1, iv (0 : Int32), .unset] [(.ref a1), (.int (0 : Int32))]))
  obtain ⟨T7, X7, e7, st7⟩ := getF X6 hx hZ hown (host := "") (Or.inl (ow73 hw)) Via.refl e6 fp1 (g := (mkF m 11 #[rv a1, iv (0 : Int32), .unset] [(.ref a1), (.int (0 : Int32))])) rfl rfl (hb hby d21_11)
  refine own_go st7 ?_
  clear st7 X6 e6
  obtain ⟨T8, X8, e8, st8⟩ := getF X7 hx hZ hown (Or.inr (ow93 hw)) Via.refl e7 (fp6.keep K0 (ninS ne1 nin0)) (g := (mkF m 14 #[rv a1, iv (0 : Int32), .unset] [(.ref a2), (.int (0 : Int32))])) rfl rfl (hb hby d21_14)
  refine own_go st8 ?_
  clear st8 X7 e7
  refine own_go (fun _ k => XS.icmpYes X8.here hx rfl (pc0 := 17) (pc' := 28) rfl (hb hby d21_17) rfl (tlt (by decide : (0 : Int32) < (1 : Int32))).1 (by decide) (by decide) k) ?_
  refine own_go (fun _ k => XS.aloadN X8.here hx rfl (hb hby d21_28) rfl rfl k) ?_
  obtain ⟨T9, X9, e9, st9⟩ := getF X8 hx hZ hown (host := "") (Or.inl (ow73 hw)) Via.refl e8 fp1 (g := (mkF m 29 #[rv a1, iv (0 : Int32), .unset] [(.ref a1)])) rfl rfl (hb hby d21_29)
  refine own_go st9 ?_
  clear st9 X8 e8
  obtain ⟨T10, X10, e10, st10⟩ := getF X9 hx hZ hown (host := "") (Or.inl (ow189 hw)) Via.refl e9 (fp7.keep K0 (ninS ne1 nin0)) (g := (mkF m 32 #[rv a1, iv (0 : Int32), .unset] [(.ref a2)])) rfl rfl (hb hby d21_32)
  refine own_go st10 ?_
  clear st10 X9 e9
  refine own_go (fun _ k => XS.astoreN X10.here hx rfl (hb hby d21_35) rfl rfl (l' := #[rv a1, iv (0 : Int32), rv b]) rfl k) ?_
  show own_Go p e below s _ _ _ (T10.setTop (mkF m 36 #[rv a1, iv (0 : Int32), rv b] []))
  refine own_go (fun _ k => XS.iloadN X10.here hx rfl (hb hby d21_36) rfl k) ?_
  refine own_go (fun _ k => XS.aloadN X10.here hx rfl (hb hby d21_37) rfl rfl k) ?_
  show own_Go p e below s _ _ _ (T10.setTop (mkF m 38 #[rv a1, iv (0 : Int32), rv b] [(.ref b), (.int (0 : Int32))]))
  obtain ⟨cl11, Ar11, -, S11, M11, -, -⟩ := id (fp9.keep K0 (ninS ne2 nin0))
  refine own_go (X10.arraylength hx (by rw [e10]; exact Ar11.1) (State.isArrayOf_alike hZ.alike Ar11.2.1) (g := (mkF m 38 #[rv a1, iv (0 : Int32), rv b] [(.ref b), (.int (0 : Int32))])) rfl rfl (hb hby d21_38)) ?_
  rw [len_of S11 M11]
  refine own_go (fun _ k => XS.icmpYes X10.here hx rfl (pc0 := 39) (pc' := 50) rfl (hb hby d21_39) rfl (tlt (by decide : (0 : Int32) < (10 : Int32))).1 (by decide) (by decide) k) ?_
  refine own_go (fun _ k => XS.aloadN X10.here hx rfl (hb hby d21_50) rfl rfl k) ?_
  refine own_go (fun _ k => XS.iloadN X10.here hx rfl (hb hby d21_51) rfl k) ?_
  refine own_go (fun _ k => XS.iconst X10.here hx rfl (hb hby d21_52) k) ?_
  refine own_go (fun _ k => XS.iadd X10.here hx rfl (hb hby d21_53) rfl k) ?_
  obtain ⟨T12, h12, X12, e12, W12, st12⟩ := putF X10 hx hZ hown (host := "") (Or.inl (ow91 hw)) Via.refl e10 fp2 fp0 (Or.inl (ow92 hw)) (ow67 hw) (ty := .int) own_fd0 rfl rfl (g := (mkF m 54 #[rv a1, iv (0 : Int32), rv b] [(.int (1 : Int32)), (.ref a1)])) rfl rfl (hb hby d21_54)
  refine own_go st12 ?_
  clear st12 X10 e10
  replace N0 := Fr.snoc X12 N0 big_a1
  replace fp0 := fp0.wr W12
  replace fp1 := fp1.other W12 (.inr (own_sn39 hw).symm)
  replace fp2 := fp2.same W12
  replace fp3 := fp3.other W12 (.inr (own_sn42 hw).symm)
  replace fp4 := fp4.other W12 (.inr (own_sn44 hw).symm)
  replace O0 := own_oldWr O0 W12 big_a1
  replace K0 := K0.wr W12 (Or.inl (List.mem_of_getElem? (i := 0) rfl))
  clear W12
  show own_Go p e below s _ _ _ (T12.setTop (mkF m 57 #[rv a1, iv (0 : Int32), rv b] []))
  refine own_go (fun _ k => XS.aloadN X12.here hx rfl (hb hby d21_57) rfl rfl k) ?_
  refine own_go (fun _ k => XS.aloadN X12.here hx rfl (hb hby d21_58) rfl rfl k) ?_
  refine own_go (fun _ k => XS.iloadN X12.here hx rfl (hb hby d21_59) rfl k) ?_
  refine own_go (fun _ k => XS.dupX1 X12.here hx rfl (hb hby d21_60) rfl rfl rfl k) ?_
  obtain ⟨T13, h13, X13, e13, W13, st13⟩ := putF X12 hx hZ hown (host := "") (Or.inl (ow76 hw)) Via.refl e12 fp3 fp0 (Or.inl (ow77 hw)) (ow67 hw) (ty := .int) own_fd0 rfl rfl (g := (mkF m 61 #[rv a1, iv (0 : Int32), rv b] [(.int (0 : Int32)), (.ref a1), (.int (0 : Int32)), (.ref b)])) rfl rfl (hb hby d21_61)
  refine own_go st13 ?_
  clear st13 X12 e12
  replace N0 := Fr.snoc X13 N0 big_a1
  replace fp0 := fp0.wr W13
  replace fp1 := fp1.other W13 (.inr (own_sn40 hw).symm)
  replace fp2 := fp2.other W13 (.inr (own_sn42 hw))
  replace fp3 := fp3.same W13
  replace fp4 := fp4.other W13 (.inr (own_sn43 hw))
  replace O0 := own_oldWr O0 W13 big_a1
  replace K0 := K0.wr W13 (Or.inl (List.mem_of_getElem? (i := 0) rfl))
  clear W13
  obtain ⟨cl14, Ar14, -, S14, -, P14, -⟩ := id (fp9.keep K0 (ninS ne2 nin0))
  have hin14 : ¬ ((0 : Int32) < 0 ∨ cl14.slots.size ≤ ((0 : Int32)).toNatClampNeg) := inb_of S14 ⟨by decide, by decide⟩
  refine own_go (X13.aaload hx (j := (0 : Int32)) (v := (.ref el1)) (by rw [e13]; exact Ar14.1) (State.isArrayOf_alike hZ.alike Ar14.2.1) rfl Ar14.2.2 hin14 (P14.at hin14 rfl) (g := (mkF m 64 #[rv a1, iv (0 : Int32), rv b] [(.int (0 : Int32)), (.ref b)])) rfl rfl (hb hby d21_64)) ?_
  show own_Go p e below s _ _ _ (T13.setTop (mkF m 65 #[rv a1, iv (0 : Int32), rv b] [(.ref el1)]))
  refine own_retA X13 hx hlk e13 hret rfl rfl (hb hby d21_65) (by show _ ≤ 0; omega) (by show _ ≤ 0; omega) ?_
  exact ⟨rfl, N0, K0, fp0, fp1, fp2, fp3, fp4⟩
def Q_nx_2_0 (Z : State) (wd : Addr) (kd : ClassId) (a1 : Addr) (a2 : Addr) (mc : Int32) (lr : Int32) (b : Addr) (k : ClassId) (el1 : Addr) (el2 : Addr) (h0 : Heap) (v : Option Value) (h : Heap) (L : List Loc) : Prop := (v = some (.ref el1) ∧ Fr Z.heap.size L ∧ Keep h0 h [a1] ∧ Exa Z h a1 "java/util/ArrayList$Itr" ∧ Fld Z h a1 "java/util/ArrayList$Itr" "this$0" "Ljava/util/ArrayList;" (.ref a2) ∧ Fld Z h a1 "java/util/ArrayList$Itr" "cursor" "I" (.int (1 : Int32)) ∧ Fld Z h a1 "java/util/ArrayList$Itr" "lastRet" "I" (.int (0 : Int32)) ∧ Fld Z h a1 "java/util/ArrayList$Itr" "expectedModCount" "I" (.int mc))
theorem ef_nx_2_0 (m : MethodId) (x0 : Addr) : entryFrame m #[(.ref x0)] 3 = mkF m 0 #[rv x0, .unset, .unset] [] := by first | (simp [entryFrame, mkF, argsToLocals, Value.category]; done) | rfl
set_option maxRecDepth 65536 in
set_option maxHeartbeats 40000000 in
theorem rm_nx_2_0 (l : Launch) (Z : State) (a0 : Array Value) (hw : ∀ d ∈ tables_1, d.before a0 Z = true) {wd : Addr} {kd : ClassId} (oDE : Sta Z Z.heap "java/util/ArrayList" "DEFAULTCAPACITY_EMPTY_ELEMENTDATA" "[Ljava/lang/Object;" (.ref wd)) (oDV : Arv Z Z.heap wd kd (.object "java/lang/Object") (0 : Int32) [] .null) (ws : List Jvm.Cond) (a1 : Addr) (a2 : Addr) (mc : Int32) (lr : Int32) (b : Addr) (k : ClassId) (el1 : Addr) (el2 : Addr) (h0 : Heap) (O0 : Ext Z.heap h0) (fp0 : Exa Z h0 a1 "java/util/ArrayList$Itr") (fp1 : Fld Z h0 a1 "java/util/ArrayList$Itr" "this$0" "Ljava/util/ArrayList;" (.ref a2)) (fp2 : Fld Z h0 a1 "java/util/ArrayList$Itr" "cursor" "I" (.int (0 : Int32))) (fp3 : Fld Z h0 a1 "java/util/ArrayList$Itr" "lastRet" "I" (.int lr)) (fp4 : Fld Z h0 a1 "java/util/ArrayList$Itr" "expectedModCount" "I" (.int mc)) (fp5 : Exa Z h0 a2 "java/util/ArrayList") (fp6 : Fld Z h0 a2 "java/util/ArrayList" "size" "I" (.int (2 : Int32))) (fp7 : Fld Z h0 a2 "java/util/ArrayList" "elementData" "[Ljava/lang/Object;" (.ref b)) (fp8 : Fld Z h0 a2 "java/util/AbstractList" "modCount" "I" (.int mc)) (fp9 : Arv Z h0 b k (.object "java/lang/Object") (10 : Int32) [(.ref el1), (.ref el2), .null, .null, .null, .null, .null, .null, .null, .null] .null) (big_a1 : Z.heap.size ≤ a1) :
    own_MF l Z h0 (⟨"java/util/ArrayList$Itr", "next", "()Ljava/lang/Object;"⟩ : MethodName) jdk_49_method_3_code 3 (some (.object "java/lang/Object")) ({ frames := 1, cells := 0, slots := 0, locals := 12 } : Room) #[(.ref a1)] (Q_nx_2_0 Z wd kd a1 a2 mc lr b k el1 el2 h0) ws := by
  refine own_met (Q := (Q_nx_2_0 Z wd kd a1 a2 mc lr b k el1 el2 h0)) _ _ (plainFor_of_name own_pn_6) ?_
  intro p e s m below meth c T X0 hx hby hml hret hlk hZ hown hnm e0
  replace hown : s.vm.findClass "java/util/ArrayList$Itr" = some m.cls := hown
  replace hnm : meth.name = "next" := hnm
  have hml : c.maxLocals = 3 := hml
  have N0 := Fr.nil Z.heap.size
  have K0 := Keep.refl h0 [a1]
  refine own_go (fun _ k => castTop (ef_nx_2_0 m a1) k) ?_
  have ne1 : a2 ≠ a1 := (ne_exa fp5 fp0 (by decide))
  have ne2 : b ≠ a1 := (Ne.symm (Exa.neArv fp0 fp9 (ow67 hw)))
  show own_Go p e below s _ _ _ (T.setTop (mkF m 0 #[rv a1, .unset, .unset] []))
  refine own_go (fun _ k => XS.aloadN X0.here hx rfl (hb hby d21_0) rfl rfl k) ?_
  obtain ⟨v3, T3, L3, X3, hQ3, st3⟩ := own_callV (y := (⟨"java/util/ArrayList$Itr", "checkForComodification", "()V"⟩ : MethodName)) (z := (⟨"java/util/ArrayList$Itr", "checkForComodification", "()V"⟩ : MethodName)) X0 hx hZ hown (ow184 hw) (ow185 hw) (notFace_of_selects (args := #[]) (mvT hZ (ow187 hw))) (ow187 hw) (ow186 hw) (ow68 hw) (ow188 hw) (rm_cfc l Z a0 hw oDE oDV [] a1 a2 mc h0 O0 fp1 fp4 (fp8.keep K0 (ninS ne1 nin0))) 0 0 0 (by show _ ≤ 0; omega) (by show _ ≤ 0; omega) e0 fp0 (g := (mkF m 1 #[rv a1, .unset, .unset] [(.ref a1)])) rfl (by rw [hml]; rfl) [] [] (lenOf own_pd_0 rfl) rfl rfl (hb hby d21_1)
  obtain ⟨rfl, Nc5, Kc4⟩ := hQ3
  refine own_go st3 ?_
  clear st3 X0 e0
  replace N0 := Fr.app N0 Nc5
  clear Nc5
  refine own_go (fun _ k => XS.aloadN X3.here hx rfl (hb hby d21_4) rfl rfl k) ?_
  obtain ⟨T6, X6, e6, st6⟩ := getF X3 hx hZ hown (host := "") (Or.inl (ow91 hw)) Via.refl Kc4 fp2 (g := (mkF m 5 #[rv a1, .unset, .unset] [(.ref a1)])) rfl rfl (hb hby d21_5)
  refine own_go st6 ?_
  clear st6 X3 Kc4
  refine own_go (fun _ k => XS.istoreN X6.here hx rfl (hb hby d21_8) rfl (l' := #[rv a1, iv (0 : Int32), .unset]) rfl k) ?_
  refine own_go (fun _ k => XS.iloadN X6.here hx rfl (hb hby d21_9) rfl k) ?_
  refine own_go (fun _ k => XS.aloadN X6.here hx rfl (hb hby d21_10) rfl rfl k) ?_
  show own_Go p e below s _ _ _ (T6.setTop (mkF m 11 #[rv a1, iv (0 : Int32), .unset] [(.ref a1), (.int (0 : Int32))]))
  obtain ⟨T7, X7, e7, st7⟩ := getF X6 hx hZ hown (host := "") (Or.inl (ow73 hw)) Via.refl e6 fp1 (g := (mkF m 11 #[rv a1, iv (0 : Int32), .unset] [(.ref a1), (.int (0 : Int32))])) rfl rfl (hb hby d21_11)
  refine own_go st7 ?_
  clear st7 X6 e6
  obtain ⟨T8, X8, e8, st8⟩ := getF X7 hx hZ hown (Or.inr (ow93 hw)) Via.refl e7 (fp6.keep K0 (ninS ne1 nin0)) (g := (mkF m 14 #[rv a1, iv (0 : Int32), .unset] [(.ref a2), (.int (0 : Int32))])) rfl rfl (hb hby d21_14)
  refine own_go st8 ?_
  clear st8 X7 e7
  refine own_go (fun _ k => XS.icmpYes X8.here hx rfl (pc0 := 17) (pc' := 28) rfl (hb hby d21_17) rfl (tlt (by decide : (0 : Int32) < (2 : Int32))).1 (by decide) (by decide) k) ?_
  refine own_go (fun _ k => XS.aloadN X8.here hx rfl (hb hby d21_28) rfl rfl k) ?_
  obtain ⟨T9, X9, e9, st9⟩ := getF X8 hx hZ hown (host := "") (Or.inl (ow73 hw)) Via.refl e8 fp1 (g := (mkF m 29 #[rv a1, iv (0 : Int32), .unset] [(.ref a1)])) rfl rfl (hb hby d21_29)
  refine own_go st9 ?_
  clear st9 X8 e8
  obtain ⟨T10, X10, e10, st10⟩ := getF X9 hx hZ hown (host := "") (Or.inl (ow189 hw)) Via.refl e9 (fp7.keep K0 (ninS ne1 nin0)) (g := (mkF m 32 #[rv a1, iv (0 : Int32), .unset] [(.ref a2)])) rfl rfl (hb hby d21_32)
  refine own_go st10 ?_
  clear st10 X9 e9
  refine own_go (fun _ k => XS.astoreN X10.here hx rfl (hb hby d21_35) rfl rfl (l' := #[rv a1, iv (0 : Int32), rv b]) rfl k) ?_
  show own_Go p e below s _ _ _ (T10.setTop (mkF m 36 #[rv a1, iv (0 : Int32), rv b] []))
  refine own_go (fun _ k => XS.iloadN X10.here hx rfl (hb hby d21_36) rfl k) ?_
  refine own_go (fun _ k => XS.aloadN X10.here hx rfl (hb hby d21_37) rfl rfl k) ?_
  show own_Go p e below s _ _ _ (T10.setTop (mkF m 38 #[rv a1, iv (0 : Int32), rv b] [(.ref b), (.int (0 : Int32))]))
  obtain ⟨cl11, Ar11, -, S11, M11, -, -⟩ := id (fp9.keep K0 (ninS ne2 nin0))
  refine own_go (X10.arraylength hx (by rw [e10]; exact Ar11.1) (State.isArrayOf_alike hZ.alike Ar11.2.1) (g := (mkF m 38 #[rv a1, iv (0 : Int32), rv b] [(.ref b), (.int (0 : Int32))])) rfl rfl (hb hby d21_38)) ?_
  rw [len_of S11 M11]
  refine own_go (fun _ k => XS.icmpYes X10.here hx rfl (pc0 := 39) (pc' := 50) rfl (hb hby d21_39) rfl (tlt (by decide : (0 : Int32) < (10 : Int32))).1 (by decide) (by decide) k) ?_
  refine own_go (fun _ k => XS.aloadN X10.here hx rfl (hb hby d21_50) rfl rfl k) ?_
  refine own_go (fun _ k => XS.iloadN X10.here hx rfl (hb hby d21_51) rfl k) ?_
  refine own_go (fun _ k => XS.iconst X10.here hx rfl (hb hby d21_52) k) ?_
  refine own_go (fun _ k => XS.iadd X10.here hx rfl (hb hby d21_53) rfl k) ?_
  obtain ⟨T12, h12, X12, e12, W12, st12⟩ := putF X10 hx hZ hown (host := "") (Or.inl (ow91 hw)) Via.refl e10 fp2 fp0 (Or.inl (ow92 hw)) (ow67 hw) (ty := .int) own_fd0 rfl rfl (g := (mkF m 54 #[rv a1, iv (0 : Int32), rv b] [(.int (1 : Int32)), (.ref a1)])) rfl rfl (hb hby d21_54)
  refine own_go st12 ?_
  clear st12 X10 e10
  replace N0 := Fr.snoc X12 N0 big_a1
  replace fp0 := fp0.wr W12
  replace fp1 := fp1.other W12 (.inr (own_sn39 hw).symm)
  replace fp2 := fp2.same W12
  replace fp3 := fp3.other W12 (.inr (own_sn42 hw).symm)
  replace fp4 := fp4.other W12 (.inr (own_sn44 hw).symm)
  replace O0 := own_oldWr O0 W12 big_a1
  replace K0 := K0.wr W12 (Or.inl (List.mem_of_getElem? (i := 0) rfl))
  clear W12
  show own_Go p e below s _ _ _ (T12.setTop (mkF m 57 #[rv a1, iv (0 : Int32), rv b] []))
  refine own_go (fun _ k => XS.aloadN X12.here hx rfl (hb hby d21_57) rfl rfl k) ?_
  refine own_go (fun _ k => XS.aloadN X12.here hx rfl (hb hby d21_58) rfl rfl k) ?_
  refine own_go (fun _ k => XS.iloadN X12.here hx rfl (hb hby d21_59) rfl k) ?_
  refine own_go (fun _ k => XS.dupX1 X12.here hx rfl (hb hby d21_60) rfl rfl rfl k) ?_
  obtain ⟨T13, h13, X13, e13, W13, st13⟩ := putF X12 hx hZ hown (host := "") (Or.inl (ow76 hw)) Via.refl e12 fp3 fp0 (Or.inl (ow77 hw)) (ow67 hw) (ty := .int) own_fd0 rfl rfl (g := (mkF m 61 #[rv a1, iv (0 : Int32), rv b] [(.int (0 : Int32)), (.ref a1), (.int (0 : Int32)), (.ref b)])) rfl rfl (hb hby d21_61)
  refine own_go st13 ?_
  clear st13 X12 e12
  replace N0 := Fr.snoc X13 N0 big_a1
  replace fp0 := fp0.wr W13
  replace fp1 := fp1.other W13 (.inr (own_sn40 hw).symm)
  replace fp2 := fp2.other W13 (.inr (own_sn42 hw))
  replace fp3 := fp3.same W13
  replace fp4 := fp4.other W13 (.inr (own_sn43 hw))
  replace O0 := own_oldWr O0 W13 big_a1
  replace K0 := K0.wr W13 (Or.inl (List.mem_of_getElem? (i := 0) rfl))
  clear W13
  obtain ⟨cl14, Ar14, -, S14, -, P14, -⟩ := id (fp9.keep K0 (ninS ne2 nin0))
  have hin14 : ¬ ((0 : Int32) < 0 ∨ cl14.slots.size ≤ ((0 : Int32)).toNatClampNeg) := inb_of S14 ⟨by decide, by decide⟩
  refine own_go (X13.aaload hx (j := (0 : Int32)) (v := (.ref el1)) (by rw [e13]; exact Ar14.1) (State.isArrayOf_alike hZ.alike Ar14.2.1) rfl Ar14.2.2 hin14 (P14.at hin14 rfl) (g := (mkF m 64 #[rv a1, iv (0 : Int32), rv b] [(.int (0 : Int32)), (.ref b)])) rfl rfl (hb hby d21_64)) ?_
  show own_Go p e below s _ _ _ (T13.setTop (mkF m 65 #[rv a1, iv (0 : Int32), rv b] [(.ref el1)]))
  refine own_retA X13 hx hlk e13 hret rfl rfl (hb hby d21_65) (by show _ ≤ 0; omega) (by show _ ≤ 0; omega) ?_
  exact ⟨rfl, N0, K0, fp0, fp1, fp2, fp3, fp4⟩
def Q_nx_2_1 (Z : State) (wd : Addr) (kd : ClassId) (a1 : Addr) (a2 : Addr) (mc : Int32) (lr : Int32) (b : Addr) (k : ClassId) (el1 : Addr) (el2 : Addr) (h0 : Heap) (v : Option Value) (h : Heap) (L : List Loc) : Prop := (v = some (.ref el2) ∧ Fr Z.heap.size L ∧ Keep h0 h [a1] ∧ Exa Z h a1 "java/util/ArrayList$Itr" ∧ Fld Z h a1 "java/util/ArrayList$Itr" "this$0" "Ljava/util/ArrayList;" (.ref a2) ∧ Fld Z h a1 "java/util/ArrayList$Itr" "cursor" "I" (.int (2 : Int32)) ∧ Fld Z h a1 "java/util/ArrayList$Itr" "lastRet" "I" (.int (1 : Int32)) ∧ Fld Z h a1 "java/util/ArrayList$Itr" "expectedModCount" "I" (.int mc))
theorem ef_nx_2_1 (m : MethodId) (x0 : Addr) : entryFrame m #[(.ref x0)] 3 = mkF m 0 #[rv x0, .unset, .unset] [] := by first | (simp [entryFrame, mkF, argsToLocals, Value.category]; done) | rfl
set_option maxRecDepth 65536 in
set_option maxHeartbeats 40000000 in
theorem rm_nx_2_1 (l : Launch) (Z : State) (a0 : Array Value) (hw : ∀ d ∈ tables_1, d.before a0 Z = true) {wd : Addr} {kd : ClassId} (oDE : Sta Z Z.heap "java/util/ArrayList" "DEFAULTCAPACITY_EMPTY_ELEMENTDATA" "[Ljava/lang/Object;" (.ref wd)) (oDV : Arv Z Z.heap wd kd (.object "java/lang/Object") (0 : Int32) [] .null) (ws : List Jvm.Cond) (a1 : Addr) (a2 : Addr) (mc : Int32) (lr : Int32) (b : Addr) (k : ClassId) (el1 : Addr) (el2 : Addr) (h0 : Heap) (O0 : Ext Z.heap h0) (fp0 : Exa Z h0 a1 "java/util/ArrayList$Itr") (fp1 : Fld Z h0 a1 "java/util/ArrayList$Itr" "this$0" "Ljava/util/ArrayList;" (.ref a2)) (fp2 : Fld Z h0 a1 "java/util/ArrayList$Itr" "cursor" "I" (.int (1 : Int32))) (fp3 : Fld Z h0 a1 "java/util/ArrayList$Itr" "lastRet" "I" (.int lr)) (fp4 : Fld Z h0 a1 "java/util/ArrayList$Itr" "expectedModCount" "I" (.int mc)) (fp5 : Exa Z h0 a2 "java/util/ArrayList") (fp6 : Fld Z h0 a2 "java/util/ArrayList" "size" "I" (.int (2 : Int32))) (fp7 : Fld Z h0 a2 "java/util/ArrayList" "elementData" "[Ljava/lang/Object;" (.ref b)) (fp8 : Fld Z h0 a2 "java/util/AbstractList" "modCount" "I" (.int mc)) (fp9 : Arv Z h0 b k (.object "java/lang/Object") (10 : Int32) [(.ref el1), (.ref el2), .null, .null, .null, .null, .null, .null, .null, .null] .null) (big_a1 : Z.heap.size ≤ a1) :
    own_MF l Z h0 (⟨"java/util/ArrayList$Itr", "next", "()Ljava/lang/Object;"⟩ : MethodName) jdk_49_method_3_code 3 (some (.object "java/lang/Object")) ({ frames := 1, cells := 0, slots := 0, locals := 12 } : Room) #[(.ref a1)] (Q_nx_2_1 Z wd kd a1 a2 mc lr b k el1 el2 h0) ws := by
  refine own_met (Q := (Q_nx_2_1 Z wd kd a1 a2 mc lr b k el1 el2 h0)) _ _ (plainFor_of_name own_pn_6) ?_
  intro p e s m below meth c T X0 hx hby hml hret hlk hZ hown hnm e0
  replace hown : s.vm.findClass "java/util/ArrayList$Itr" = some m.cls := hown
  replace hnm : meth.name = "next" := hnm
  have hml : c.maxLocals = 3 := hml
  have N0 := Fr.nil Z.heap.size
  have K0 := Keep.refl h0 [a1]
  refine own_go (fun _ k => castTop (ef_nx_2_1 m a1) k) ?_
  have ne1 : a2 ≠ a1 := (ne_exa fp5 fp0 (by decide))
  have ne2 : b ≠ a1 := (Ne.symm (Exa.neArv fp0 fp9 (ow67 hw)))
  show own_Go p e below s _ _ _ (T.setTop (mkF m 0 #[rv a1, .unset, .unset] []))
  refine own_go (fun _ k => XS.aloadN X0.here hx rfl (hb hby d21_0) rfl rfl k) ?_
  obtain ⟨v3, T3, L3, X3, hQ3, st3⟩ := own_callV (y := (⟨"java/util/ArrayList$Itr", "checkForComodification", "()V"⟩ : MethodName)) (z := (⟨"java/util/ArrayList$Itr", "checkForComodification", "()V"⟩ : MethodName)) X0 hx hZ hown (ow184 hw) (ow185 hw) (notFace_of_selects (args := #[]) (mvT hZ (ow187 hw))) (ow187 hw) (ow186 hw) (ow68 hw) (ow188 hw) (rm_cfc l Z a0 hw oDE oDV [] a1 a2 mc h0 O0 fp1 fp4 (fp8.keep K0 (ninS ne1 nin0))) 0 0 0 (by show _ ≤ 0; omega) (by show _ ≤ 0; omega) e0 fp0 (g := (mkF m 1 #[rv a1, .unset, .unset] [(.ref a1)])) rfl (by rw [hml]; rfl) [] [] (lenOf own_pd_0 rfl) rfl rfl (hb hby d21_1)
  obtain ⟨rfl, Nc5, Kc4⟩ := hQ3
  refine own_go st3 ?_
  clear st3 X0 e0
  replace N0 := Fr.app N0 Nc5
  clear Nc5
  refine own_go (fun _ k => XS.aloadN X3.here hx rfl (hb hby d21_4) rfl rfl k) ?_
  obtain ⟨T6, X6, e6, st6⟩ := getF X3 hx hZ hown (host := "") (Or.inl (ow91 hw)) Via.refl Kc4 fp2 (g := (mkF m 5 #[rv a1, .unset, .unset] [(.ref a1)])) rfl rfl (hb hby d21_5)
  refine own_go st6 ?_
  clear st6 X3 Kc4
  refine own_go (fun _ k => XS.istoreN X6.here hx rfl (hb hby d21_8) rfl (l' := #[rv a1, iv (1 : Int32), .unset]) rfl k) ?_
  refine own_go (fun _ k => XS.iloadN X6.here hx rfl (hb hby d21_9) rfl k) ?_
  refine own_go (fun _ k => XS.aloadN X6.here hx rfl (hb hby d21_10) rfl rfl k) ?_
  show own_Go p e below s _ _ _ (T6.setTop (mkF m 11 #[rv a1, iv (1 : Int32), .unset] [(.ref a1), (.int (1 : Int32))]))
  obtain ⟨T7, X7, e7, st7⟩ := getF X6 hx hZ hown (host := "") (Or.inl (ow73 hw)) Via.refl e6 fp1 (g := (mkF m 11 #[rv a1, iv (1 : Int32), .unset] [(.ref a1), (.int (1 : Int32))])) rfl rfl (hb hby d21_11)
  refine own_go st7 ?_
  clear st7 X6 e6
  obtain ⟨T8, X8, e8, st8⟩ := getF X7 hx hZ hown (Or.inr (ow93 hw)) Via.refl e7 (fp6.keep K0 (ninS ne1 nin0)) (g := (mkF m 14 #[rv a1, iv (1 : Int32), .unset] [(.ref a2), (.int (1 : Int32))])) rfl rfl (hb hby d21_14)
  refine own_go st8 ?_
  clear st8 X7 e7
  refine own_go (fun _ k => XS.icmpYes X8.here hx rfl (pc0 := 17) (pc' := 28) rfl (hb hby d21_17) rfl (tlt (by decide : (1 : Int32) < (2 : Int32))).1 (by decide) (by decide) k) ?_
  refine own_go (fun _ k => XS.aloadN X8.here hx rfl (hb hby d21_28) rfl rfl k) ?_
  obtain ⟨T9, X9, e9, st9⟩ := getF X8 hx hZ hown (host := "") (Or.inl (ow73 hw)) Via.refl e8 fp1 (g := (mkF m 29 #[rv a1, iv (1 : Int32), .unset] [(.ref a1)])) rfl rfl (hb hby d21_29)
  refine own_go st9 ?_
  clear st9 X8 e8
  obtain ⟨T10, X10, e10, st10⟩ := getF X9 hx hZ hown (host := "") (Or.inl (ow189 hw)) Via.refl e9 (fp7.keep K0 (ninS ne1 nin0)) (g := (mkF m 32 #[rv a1, iv (1 : Int32), .unset] [(.ref a2)])) rfl rfl (hb hby d21_32)
  refine own_go st10 ?_
  clear st10 X9 e9
  refine own_go (fun _ k => XS.astoreN X10.here hx rfl (hb hby d21_35) rfl rfl (l' := #[rv a1, iv (1 : Int32), rv b]) rfl k) ?_
  show own_Go p e below s _ _ _ (T10.setTop (mkF m 36 #[rv a1, iv (1 : Int32), rv b] []))
  refine own_go (fun _ k => XS.iloadN X10.here hx rfl (hb hby d21_36) rfl k) ?_
  refine own_go (fun _ k => XS.aloadN X10.here hx rfl (hb hby d21_37) rfl rfl k) ?_
  show own_Go p e below s _ _ _ (T10.setTop (mkF m 38 #[rv a1, iv (1 : Int32), rv b] [(.ref b), (.int (1 : Int32))]))
  obtain ⟨cl11, Ar11, -, S11, M11, -, -⟩ := id (fp9.keep K0 (ninS ne2 nin0))
  refine own_go (X10.arraylength hx (by rw [e10]; exact Ar11.1) (State.isArrayOf_alike hZ.alike Ar11.2.1) (g := (mkF m 38 #[rv a1, iv (1 : Int32), rv b] [(.ref b), (.int (1 : Int32))])) rfl rfl (hb hby d21_38)) ?_
  rw [len_of S11 M11]
  refine own_go (fun _ k => XS.icmpYes X10.here hx rfl (pc0 := 39) (pc' := 50) rfl (hb hby d21_39) rfl (tlt (by decide : (1 : Int32) < (10 : Int32))).1 (by decide) (by decide) k) ?_
  refine own_go (fun _ k => XS.aloadN X10.here hx rfl (hb hby d21_50) rfl rfl k) ?_
  refine own_go (fun _ k => XS.iloadN X10.here hx rfl (hb hby d21_51) rfl k) ?_
  refine own_go (fun _ k => XS.iconst X10.here hx rfl (hb hby d21_52) k) ?_
  refine own_go (fun _ k => XS.iadd X10.here hx rfl (hb hby d21_53) rfl k) ?_
  obtain ⟨T12, h12, X12, e12, W12, st12⟩ := putF X10 hx hZ hown (host := "") (Or.inl (ow91 hw)) Via.refl e10 fp2 fp0 (Or.inl (ow92 hw)) (ow67 hw) (ty := .int) own_fd0 rfl rfl (g := (mkF m 54 #[rv a1, iv (1 : Int32), rv b] [(.int (2 : Int32)), (.ref a1)])) rfl rfl (hb hby d21_54)
  refine own_go st12 ?_
  clear st12 X10 e10
  replace N0 := Fr.snoc X12 N0 big_a1
  replace fp0 := fp0.wr W12
  replace fp1 := fp1.other W12 (.inr (own_sn39 hw).symm)
  replace fp2 := fp2.same W12
  replace fp3 := fp3.other W12 (.inr (own_sn42 hw).symm)
  replace fp4 := fp4.other W12 (.inr (own_sn44 hw).symm)
  replace O0 := own_oldWr O0 W12 big_a1
  replace K0 := K0.wr W12 (Or.inl (List.mem_of_getElem? (i := 0) rfl))
  clear W12
  show own_Go p e below s _ _ _ (T12.setTop (mkF m 57 #[rv a1, iv (1 : Int32), rv b] []))
  refine own_go (fun _ k => XS.aloadN X12.here hx rfl (hb hby d21_57) rfl rfl k) ?_
  refine own_go (fun _ k => XS.aloadN X12.here hx rfl (hb hby d21_58) rfl rfl k) ?_
  refine own_go (fun _ k => XS.iloadN X12.here hx rfl (hb hby d21_59) rfl k) ?_
  refine own_go (fun _ k => XS.dupX1 X12.here hx rfl (hb hby d21_60) rfl rfl rfl k) ?_
  obtain ⟨T13, h13, X13, e13, W13, st13⟩ := putF X12 hx hZ hown (host := "") (Or.inl (ow76 hw)) Via.refl e12 fp3 fp0 (Or.inl (ow77 hw)) (ow67 hw) (ty := .int) own_fd0 rfl rfl (g := (mkF m 61 #[rv a1, iv (1 : Int32), rv b] [(.int (1 : Int32)), (.ref a1), (.int (1 : Int32)), (.ref b)])) rfl rfl (hb hby d21_61)
  refine own_go st13 ?_
  clear st13 X12 e12
  replace N0 := Fr.snoc X13 N0 big_a1
  replace fp0 := fp0.wr W13
  replace fp1 := fp1.other W13 (.inr (own_sn40 hw).symm)
  replace fp2 := fp2.other W13 (.inr (own_sn42 hw))
  replace fp3 := fp3.same W13
  replace fp4 := fp4.other W13 (.inr (own_sn43 hw))
  replace O0 := own_oldWr O0 W13 big_a1
  replace K0 := K0.wr W13 (Or.inl (List.mem_of_getElem? (i := 0) rfl))
  clear W13
  obtain ⟨cl14, Ar14, -, S14, -, P14, -⟩ := id (fp9.keep K0 (ninS ne2 nin0))
  have hin14 : ¬ ((1 : Int32) < 0 ∨ cl14.slots.size ≤ ((1 : Int32)).toNatClampNeg) := inb_of S14 ⟨by decide, by decide⟩
  refine own_go (X13.aaload hx (j := (1 : Int32)) (v := (.ref el2)) (by rw [e13]; exact Ar14.1) (State.isArrayOf_alike hZ.alike Ar14.2.1) rfl Ar14.2.2 hin14 (P14.at hin14 rfl) (g := (mkF m 64 #[rv a1, iv (1 : Int32), rv b] [(.int (1 : Int32)), (.ref b)])) rfl rfl (hb hby d21_64)) ?_
  show own_Go p e below s _ _ _ (T13.setTop (mkF m 65 #[rv a1, iv (1 : Int32), rv b] [(.ref el2)]))
  refine own_retA X13 hx hlk e13 hret rfl rfl (hb hby d21_65) (by show _ ≤ 0; omega) (by show _ ≤ 0; omega) ?_
  exact ⟨rfl, N0, K0, fp0, fp1, fp2, fp3, fp4⟩
def Q_nx_3_0 (Z : State) (wd : Addr) (kd : ClassId) (a1 : Addr) (a2 : Addr) (mc : Int32) (lr : Int32) (b : Addr) (k : ClassId) (el1 : Addr) (el2 : Addr) (el3 : Addr) (h0 : Heap) (v : Option Value) (h : Heap) (L : List Loc) : Prop := (v = some (.ref el1) ∧ Fr Z.heap.size L ∧ Keep h0 h [a1] ∧ Exa Z h a1 "java/util/ArrayList$Itr" ∧ Fld Z h a1 "java/util/ArrayList$Itr" "this$0" "Ljava/util/ArrayList;" (.ref a2) ∧ Fld Z h a1 "java/util/ArrayList$Itr" "cursor" "I" (.int (1 : Int32)) ∧ Fld Z h a1 "java/util/ArrayList$Itr" "lastRet" "I" (.int (0 : Int32)) ∧ Fld Z h a1 "java/util/ArrayList$Itr" "expectedModCount" "I" (.int mc))
theorem ef_nx_3_0 (m : MethodId) (x0 : Addr) : entryFrame m #[(.ref x0)] 3 = mkF m 0 #[rv x0, .unset, .unset] [] := by first | (simp [entryFrame, mkF, argsToLocals, Value.category]; done) | rfl
set_option maxRecDepth 65536 in
set_option maxHeartbeats 40000000 in
theorem rm_nx_3_0 (l : Launch) (Z : State) (a0 : Array Value) (hw : ∀ d ∈ tables_1, d.before a0 Z = true) {wd : Addr} {kd : ClassId} (oDE : Sta Z Z.heap "java/util/ArrayList" "DEFAULTCAPACITY_EMPTY_ELEMENTDATA" "[Ljava/lang/Object;" (.ref wd)) (oDV : Arv Z Z.heap wd kd (.object "java/lang/Object") (0 : Int32) [] .null) (ws : List Jvm.Cond) (a1 : Addr) (a2 : Addr) (mc : Int32) (lr : Int32) (b : Addr) (k : ClassId) (el1 : Addr) (el2 : Addr) (el3 : Addr) (h0 : Heap) (O0 : Ext Z.heap h0) (fp0 : Exa Z h0 a1 "java/util/ArrayList$Itr") (fp1 : Fld Z h0 a1 "java/util/ArrayList$Itr" "this$0" "Ljava/util/ArrayList;" (.ref a2)) (fp2 : Fld Z h0 a1 "java/util/ArrayList$Itr" "cursor" "I" (.int (0 : Int32))) (fp3 : Fld Z h0 a1 "java/util/ArrayList$Itr" "lastRet" "I" (.int lr)) (fp4 : Fld Z h0 a1 "java/util/ArrayList$Itr" "expectedModCount" "I" (.int mc)) (fp5 : Exa Z h0 a2 "java/util/ArrayList") (fp6 : Fld Z h0 a2 "java/util/ArrayList" "size" "I" (.int (3 : Int32))) (fp7 : Fld Z h0 a2 "java/util/ArrayList" "elementData" "[Ljava/lang/Object;" (.ref b)) (fp8 : Fld Z h0 a2 "java/util/AbstractList" "modCount" "I" (.int mc)) (fp9 : Arv Z h0 b k (.object "java/lang/Object") (10 : Int32) [(.ref el1), (.ref el2), (.ref el3), .null, .null, .null, .null, .null, .null, .null] .null) (big_a1 : Z.heap.size ≤ a1) :
    own_MF l Z h0 (⟨"java/util/ArrayList$Itr", "next", "()Ljava/lang/Object;"⟩ : MethodName) jdk_49_method_3_code 3 (some (.object "java/lang/Object")) ({ frames := 1, cells := 0, slots := 0, locals := 12 } : Room) #[(.ref a1)] (Q_nx_3_0 Z wd kd a1 a2 mc lr b k el1 el2 el3 h0) ws := by
  refine own_met (Q := (Q_nx_3_0 Z wd kd a1 a2 mc lr b k el1 el2 el3 h0)) _ _ (plainFor_of_name own_pn_6) ?_
  intro p e s m below meth c T X0 hx hby hml hret hlk hZ hown hnm e0
  replace hown : s.vm.findClass "java/util/ArrayList$Itr" = some m.cls := hown
  replace hnm : meth.name = "next" := hnm
  have hml : c.maxLocals = 3 := hml
  have N0 := Fr.nil Z.heap.size
  have K0 := Keep.refl h0 [a1]
  refine own_go (fun _ k => castTop (ef_nx_3_0 m a1) k) ?_
  have ne1 : a2 ≠ a1 := (ne_exa fp5 fp0 (by decide))
  have ne2 : b ≠ a1 := (Ne.symm (Exa.neArv fp0 fp9 (ow67 hw)))
  show own_Go p e below s _ _ _ (T.setTop (mkF m 0 #[rv a1, .unset, .unset] []))
  refine own_go (fun _ k => XS.aloadN X0.here hx rfl (hb hby d21_0) rfl rfl k) ?_
  obtain ⟨v3, T3, L3, X3, hQ3, st3⟩ := own_callV (y := (⟨"java/util/ArrayList$Itr", "checkForComodification", "()V"⟩ : MethodName)) (z := (⟨"java/util/ArrayList$Itr", "checkForComodification", "()V"⟩ : MethodName)) X0 hx hZ hown (ow184 hw) (ow185 hw) (notFace_of_selects (args := #[]) (mvT hZ (ow187 hw))) (ow187 hw) (ow186 hw) (ow68 hw) (ow188 hw) (rm_cfc l Z a0 hw oDE oDV [] a1 a2 mc h0 O0 fp1 fp4 (fp8.keep K0 (ninS ne1 nin0))) 0 0 0 (by show _ ≤ 0; omega) (by show _ ≤ 0; omega) e0 fp0 (g := (mkF m 1 #[rv a1, .unset, .unset] [(.ref a1)])) rfl (by rw [hml]; rfl) [] [] (lenOf own_pd_0 rfl) rfl rfl (hb hby d21_1)
  obtain ⟨rfl, Nc5, Kc4⟩ := hQ3
  refine own_go st3 ?_
  clear st3 X0 e0
  replace N0 := Fr.app N0 Nc5
  clear Nc5
  refine own_go (fun _ k => XS.aloadN X3.here hx rfl (hb hby d21_4) rfl rfl k) ?_
  obtain ⟨T6, X6, e6, st6⟩ := getF X3 hx hZ hown (host := "") (Or.inl (ow91 hw)) Via.refl Kc4 fp2 (g := (mkF m 5 #[rv a1, .unset, .unset] [(.ref a1)])) rfl rfl (hb hby d21_5)
  refine own_go st6 ?_
  clear st6 X3 Kc4
  refine own_go (fun _ k => XS.istoreN X6.here hx rfl (hb hby d21_8) rfl (l' := #[rv a1, iv (0 : Int32), .unset]) rfl k) ?_
  refine own_go (fun _ k => XS.iloadN X6.here hx rfl (hb hby d21_9) rfl k) ?_
  refine own_go (fun _ k => XS.aloadN X6.here hx rfl (hb hby d21_10) rfl rfl k) ?_
  show own_Go p e below s _ _ _ (T6.setTop (mkF m 11 #[rv a1, iv (0 : Int32), .unset] [(.ref a1), (.int (0 : Int32))]))
  obtain ⟨T7, X7, e7, st7⟩ := getF X6 hx hZ hown (host := "") (Or.inl (ow73 hw)) Via.refl e6 fp1 (g := (mkF m 11 #[rv a1, iv (0 : Int32), .unset] [(.ref a1), (.int (0 : Int32))])) rfl rfl (hb hby d21_11)
  refine own_go st7 ?_
  clear st7 X6 e6
  obtain ⟨T8, X8, e8, st8⟩ := getF X7 hx hZ hown (Or.inr (ow93 hw)) Via.refl e7 (fp6.keep K0 (ninS ne1 nin0)) (g := (mkF m 14 #[rv a1, iv (0 : Int32), .unset] [(.ref a2), (.int (0 : Int32))])) rfl rfl (hb hby d21_14)
  refine own_go st8 ?_
  clear st8 X7 e7
  refine own_go (fun _ k => XS.icmpYes X8.here hx rfl (pc0 := 17) (pc' := 28) rfl (hb hby d21_17) rfl (tlt (by decide : (0 : Int32) < (3 : Int32))).1 (by decide) (by decide) k) ?_
  refine own_go (fun _ k => XS.aloadN X8.here hx rfl (hb hby d21_28) rfl rfl k) ?_
  obtain ⟨T9, X9, e9, st9⟩ := getF X8 hx hZ hown (host := "") (Or.inl (ow73 hw)) Via.refl e8 fp1 (g := (mkF m 29 #[rv a1, iv (0 : Int32), .unset] [(.ref a1)])) rfl rfl (hb hby d21_29)
  refine own_go st9 ?_
  clear st9 X8 e8
  obtain ⟨T10, X10, e10, st10⟩ := getF X9 hx hZ hown (host := "") (Or.inl (ow189 hw)) Via.refl e9 (fp7.keep K0 (ninS ne1 nin0)) (g := (mkF m 32 #[rv a1, iv (0 : Int32), .unset] [(.ref a2)])) rfl rfl (hb hby d21_32)
  refine own_go st10 ?_
  clear st10 X9 e9
  refine own_go (fun _ k => XS.astoreN X10.here hx rfl (hb hby d21_35) rfl rfl (l' := #[rv a1, iv (0 : Int32), rv b]) rfl k) ?_
  show own_Go p e below s _ _ _ (T10.setTop (mkF m 36 #[rv a1, iv (0 : Int32), rv b] []))
  refine own_go (fun _ k => XS.iloadN X10.here hx rfl (hb hby d21_36) rfl k) ?_
  refine own_go (fun _ k => XS.aloadN X10.here hx rfl (hb hby d21_37) rfl rfl k) ?_
  show own_Go p e below s _ _ _ (T10.setTop (mkF m 38 #[rv a1, iv (0 : Int32), rv b] [(.ref b), (.int (0 : Int32))]))
  obtain ⟨cl11, Ar11, -, S11, M11, -, -⟩ := id (fp9.keep K0 (ninS ne2 nin0))
  refine own_go (X10.arraylength hx (by rw [e10]; exact Ar11.1) (State.isArrayOf_alike hZ.alike Ar11.2.1) (g := (mkF m 38 #[rv a1, iv (0 : Int32), rv b] [(.ref b), (.int (0 : Int32))])) rfl rfl (hb hby d21_38)) ?_
  rw [len_of S11 M11]
  refine own_go (fun _ k => XS.icmpYes X10.here hx rfl (pc0 := 39) (pc' := 50) rfl (hb hby d21_39) rfl (tlt (by decide : (0 : Int32) < (10 : Int32))).1 (by decide) (by decide) k) ?_
  refine own_go (fun _ k => XS.aloadN X10.here hx rfl (hb hby d21_50) rfl rfl k) ?_
  refine own_go (fun _ k => XS.iloadN X10.here hx rfl (hb hby d21_51) rfl k) ?_
  refine own_go (fun _ k => XS.iconst X10.here hx rfl (hb hby d21_52) k) ?_
  refine own_go (fun _ k => XS.iadd X10.here hx rfl (hb hby d21_53) rfl k) ?_
  obtain ⟨T12, h12, X12, e12, W12, st12⟩ := putF X10 hx hZ hown (host := "") (Or.inl (ow91 hw)) Via.refl e10 fp2 fp0 (Or.inl (ow92 hw)) (ow67 hw) (ty := .int) own_fd0 rfl rfl (g := (mkF m 54 #[rv a1, iv (0 : Int32), rv b] [(.int (1 : Int32)), (.ref a1)])) rfl rfl (hb hby d21_54)
  refine own_go st12 ?_
  clear st12 X10 e10
  replace N0 := Fr.snoc X12 N0 big_a1
  replace fp0 := fp0.wr W12
  replace fp1 := fp1.other W12 (.inr (own_sn39 hw).symm)
  replace fp2 := fp2.same W12
  replace fp3 := fp3.other W12 (.inr (own_sn42 hw).symm)
  replace fp4 := fp4.other W12 (.inr (own_sn44 hw).symm)
  replace O0 := own_oldWr O0 W12 big_a1
  replace K0 := K0.wr W12 (Or.inl (List.mem_of_getElem? (i := 0) rfl))
  clear W12
  show own_Go p e below s _ _ _ (T12.setTop (mkF m 57 #[rv a1, iv (0 : Int32), rv b] []))
  refine own_go (fun _ k => XS.aloadN X12.here hx rfl (hb hby d21_57) rfl rfl k) ?_
  refine own_go (fun _ k => XS.aloadN X12.here hx rfl (hb hby d21_58) rfl rfl k) ?_
  refine own_go (fun _ k => XS.iloadN X12.here hx rfl (hb hby d21_59) rfl k) ?_
  refine own_go (fun _ k => XS.dupX1 X12.here hx rfl (hb hby d21_60) rfl rfl rfl k) ?_
  obtain ⟨T13, h13, X13, e13, W13, st13⟩ := putF X12 hx hZ hown (host := "") (Or.inl (ow76 hw)) Via.refl e12 fp3 fp0 (Or.inl (ow77 hw)) (ow67 hw) (ty := .int) own_fd0 rfl rfl (g := (mkF m 61 #[rv a1, iv (0 : Int32), rv b] [(.int (0 : Int32)), (.ref a1), (.int (0 : Int32)), (.ref b)])) rfl rfl (hb hby d21_61)
  refine own_go st13 ?_
  clear st13 X12 e12
  replace N0 := Fr.snoc X13 N0 big_a1
  replace fp0 := fp0.wr W13
  replace fp1 := fp1.other W13 (.inr (own_sn40 hw).symm)
  replace fp2 := fp2.other W13 (.inr (own_sn42 hw))
  replace fp3 := fp3.same W13
  replace fp4 := fp4.other W13 (.inr (own_sn43 hw))
  replace O0 := own_oldWr O0 W13 big_a1
  replace K0 := K0.wr W13 (Or.inl (List.mem_of_getElem? (i := 0) rfl))
  clear W13
  obtain ⟨cl14, Ar14, -, S14, -, P14, -⟩ := id (fp9.keep K0 (ninS ne2 nin0))
  have hin14 : ¬ ((0 : Int32) < 0 ∨ cl14.slots.size ≤ ((0 : Int32)).toNatClampNeg) := inb_of S14 ⟨by decide, by decide⟩
  refine own_go (X13.aaload hx (j := (0 : Int32)) (v := (.ref el1)) (by rw [e13]; exact Ar14.1) (State.isArrayOf_alike hZ.alike Ar14.2.1) rfl Ar14.2.2 hin14 (P14.at hin14 rfl) (g := (mkF m 64 #[rv a1, iv (0 : Int32), rv b] [(.int (0 : Int32)), (.ref b)])) rfl rfl (hb hby d21_64)) ?_
  show own_Go p e below s _ _ _ (T13.setTop (mkF m 65 #[rv a1, iv (0 : Int32), rv b] [(.ref el1)]))
  refine own_retA X13 hx hlk e13 hret rfl rfl (hb hby d21_65) (by show _ ≤ 0; omega) (by show _ ≤ 0; omega) ?_
  exact ⟨rfl, N0, K0, fp0, fp1, fp2, fp3, fp4⟩
def Q_nx_3_1 (Z : State) (wd : Addr) (kd : ClassId) (a1 : Addr) (a2 : Addr) (mc : Int32) (lr : Int32) (b : Addr) (k : ClassId) (el1 : Addr) (el2 : Addr) (el3 : Addr) (h0 : Heap) (v : Option Value) (h : Heap) (L : List Loc) : Prop := (v = some (.ref el2) ∧ Fr Z.heap.size L ∧ Keep h0 h [a1] ∧ Exa Z h a1 "java/util/ArrayList$Itr" ∧ Fld Z h a1 "java/util/ArrayList$Itr" "this$0" "Ljava/util/ArrayList;" (.ref a2) ∧ Fld Z h a1 "java/util/ArrayList$Itr" "cursor" "I" (.int (2 : Int32)) ∧ Fld Z h a1 "java/util/ArrayList$Itr" "lastRet" "I" (.int (1 : Int32)) ∧ Fld Z h a1 "java/util/ArrayList$Itr" "expectedModCount" "I" (.int mc))
theorem ef_nx_3_1 (m : MethodId) (x0 : Addr) : entryFrame m #[(.ref x0)] 3 = mkF m 0 #[rv x0, .unset, .unset] [] := by first | (simp [entryFrame, mkF, argsToLocals, Value.category]; done) | rfl
set_option maxRecDepth 65536 in
set_option maxHeartbeats 40000000 in
theorem rm_nx_3_1 (l : Launch) (Z : State) (a0 : Array Value) (hw : ∀ d ∈ tables_1, d.before a0 Z = true) {wd : Addr} {kd : ClassId} (oDE : Sta Z Z.heap "java/util/ArrayList" "DEFAULTCAPACITY_EMPTY_ELEMENTDATA" "[Ljava/lang/Object;" (.ref wd)) (oDV : Arv Z Z.heap wd kd (.object "java/lang/Object") (0 : Int32) [] .null) (ws : List Jvm.Cond) (a1 : Addr) (a2 : Addr) (mc : Int32) (lr : Int32) (b : Addr) (k : ClassId) (el1 : Addr) (el2 : Addr) (el3 : Addr) (h0 : Heap) (O0 : Ext Z.heap h0) (fp0 : Exa Z h0 a1 "java/util/ArrayList$Itr") (fp1 : Fld Z h0 a1 "java/util/ArrayList$Itr" "this$0" "Ljava/util/ArrayList;" (.ref a2)) (fp2 : Fld Z h0 a1 "java/util/ArrayList$Itr" "cursor" "I" (.int (1 : Int32))) (fp3 : Fld Z h0 a1 "java/util/ArrayList$Itr" "lastRet" "I" (.int lr)) (fp4 : Fld Z h0 a1 "java/util/ArrayList$Itr" "expectedModCount" "I" (.int mc)) (fp5 : Exa Z h0 a2 "java/util/ArrayList") (fp6 : Fld Z h0 a2 "java/util/ArrayList" "size" "I" (.int (3 : Int32))) (fp7 : Fld Z h0 a2 "java/util/ArrayList" "elementData" "[Ljava/lang/Object;" (.ref b)) (fp8 : Fld Z h0 a2 "java/util/AbstractList" "modCount" "I" (.int mc)) (fp9 : Arv Z h0 b k (.object "java/lang/Object") (10 : Int32) [(.ref el1), (.ref el2), (.ref el3), .null, .null, .null, .null, .null, .null, .null] .null) (big_a1 : Z.heap.size ≤ a1) :
    own_MF l Z h0 (⟨"java/util/ArrayList$Itr", "next", "()Ljava/lang/Object;"⟩ : MethodName) jdk_49_method_3_code 3 (some (.object "java/lang/Object")) ({ frames := 1, cells := 0, slots := 0, locals := 12 } : Room) #[(.ref a1)] (Q_nx_3_1 Z wd kd a1 a2 mc lr b k el1 el2 el3 h0) ws := by
  refine own_met (Q := (Q_nx_3_1 Z wd kd a1 a2 mc lr b k el1 el2 el3 h0)) _ _ (plainFor_of_name own_pn_6) ?_
  intro p e s m below meth c T X0 hx hby hml hret hlk hZ hown hnm e0
  replace hown : s.vm.findClass "java/util/ArrayList$Itr" = some m.cls := hown
  replace hnm : meth.name = "next" := hnm
  have hml : c.maxLocals = 3 := hml
  have N0 := Fr.nil Z.heap.size
  have K0 := Keep.refl h0 [a1]
  refine own_go (fun _ k => castTop (ef_nx_3_1 m a1) k) ?_
  have ne1 : a2 ≠ a1 := (ne_exa fp5 fp0 (by decide))
  have ne2 : b ≠ a1 := (Ne.symm (Exa.neArv fp0 fp9 (ow67 hw)))
  show own_Go p e below s _ _ _ (T.setTop (mkF m 0 #[rv a1, .unset, .unset] []))
  refine own_go (fun _ k => XS.aloadN X0.here hx rfl (hb hby d21_0) rfl rfl k) ?_
  obtain ⟨v3, T3, L3, X3, hQ3, st3⟩ := own_callV (y := (⟨"java/util/ArrayList$Itr", "checkForComodification", "()V"⟩ : MethodName)) (z := (⟨"java/util/ArrayList$Itr", "checkForComodification", "()V"⟩ : MethodName)) X0 hx hZ hown (ow184 hw) (ow185 hw) (notFace_of_selects (args := #[]) (mvT hZ (ow187 hw))) (ow187 hw) (ow186 hw) (ow68 hw) (ow188 hw) (rm_cfc l Z a0 hw oDE oDV [] a1 a2 mc h0 O0 fp1 fp4 (fp8.keep K0 (ninS ne1 nin0))) 0 0 0 (by show _ ≤ 0; omega) (by show _ ≤ 0; omega) e0 fp0 (g := (mkF m 1 #[rv a1, .unset, .unset] [(.ref a1)])) rfl (by rw [hml]; rfl) [] [] (lenOf own_pd_0 rfl) rfl rfl (hb hby d21_1)
  obtain ⟨rfl, Nc5, Kc4⟩ := hQ3
  refine own_go st3 ?_
  clear st3 X0 e0
  replace N0 := Fr.app N0 Nc5
  clear Nc5
  refine own_go (fun _ k => XS.aloadN X3.here hx rfl (hb hby d21_4) rfl rfl k) ?_
  obtain ⟨T6, X6, e6, st6⟩ := getF X3 hx hZ hown (host := "") (Or.inl (ow91 hw)) Via.refl Kc4 fp2 (g := (mkF m 5 #[rv a1, .unset, .unset] [(.ref a1)])) rfl rfl (hb hby d21_5)
  refine own_go st6 ?_
  clear st6 X3 Kc4
  refine own_go (fun _ k => XS.istoreN X6.here hx rfl (hb hby d21_8) rfl (l' := #[rv a1, iv (1 : Int32), .unset]) rfl k) ?_
  refine own_go (fun _ k => XS.iloadN X6.here hx rfl (hb hby d21_9) rfl k) ?_
  refine own_go (fun _ k => XS.aloadN X6.here hx rfl (hb hby d21_10) rfl rfl k) ?_
  show own_Go p e below s _ _ _ (T6.setTop (mkF m 11 #[rv a1, iv (1 : Int32), .unset] [(.ref a1), (.int (1 : Int32))]))
  obtain ⟨T7, X7, e7, st7⟩ := getF X6 hx hZ hown (host := "") (Or.inl (ow73 hw)) Via.refl e6 fp1 (g := (mkF m 11 #[rv a1, iv (1 : Int32), .unset] [(.ref a1), (.int (1 : Int32))])) rfl rfl (hb hby d21_11)
  refine own_go st7 ?_
  clear st7 X6 e6
  obtain ⟨T8, X8, e8, st8⟩ := getF X7 hx hZ hown (Or.inr (ow93 hw)) Via.refl e7 (fp6.keep K0 (ninS ne1 nin0)) (g := (mkF m 14 #[rv a1, iv (1 : Int32), .unset] [(.ref a2), (.int (1 : Int32))])) rfl rfl (hb hby d21_14)
  refine own_go st8 ?_
  clear st8 X7 e7
  refine own_go (fun _ k => XS.icmpYes X8.here hx rfl (pc0 := 17) (pc' := 28) rfl (hb hby d21_17) rfl (tlt (by decide : (1 : Int32) < (3 : Int32))).1 (by decide) (by decide) k) ?_
  refine own_go (fun _ k => XS.aloadN X8.here hx rfl (hb hby d21_28) rfl rfl k) ?_
  obtain ⟨T9, X9, e9, st9⟩ := getF X8 hx hZ hown (host := "") (Or.inl (ow73 hw)) Via.refl e8 fp1 (g := (mkF m 29 #[rv a1, iv (1 : Int32), .unset] [(.ref a1)])) rfl rfl (hb hby d21_29)
  refine own_go st9 ?_
  clear st9 X8 e8
  obtain ⟨T10, X10, e10, st10⟩ := getF X9 hx hZ hown (host := "") (Or.inl (ow189 hw)) Via.refl e9 (fp7.keep K0 (ninS ne1 nin0)) (g := (mkF m 32 #[rv a1, iv (1 : Int32), .unset] [(.ref a2)])) rfl rfl (hb hby d21_32)
  refine own_go st10 ?_
  clear st10 X9 e9
  refine own_go (fun _ k => XS.astoreN X10.here hx rfl (hb hby d21_35) rfl rfl (l' := #[rv a1, iv (1 : Int32), rv b]) rfl k) ?_
  show own_Go p e below s _ _ _ (T10.setTop (mkF m 36 #[rv a1, iv (1 : Int32), rv b] []))
  refine own_go (fun _ k => XS.iloadN X10.here hx rfl (hb hby d21_36) rfl k) ?_
  refine own_go (fun _ k => XS.aloadN X10.here hx rfl (hb hby d21_37) rfl rfl k) ?_
  show own_Go p e below s _ _ _ (T10.setTop (mkF m 38 #[rv a1, iv (1 : Int32), rv b] [(.ref b), (.int (1 : Int32))]))
  obtain ⟨cl11, Ar11, -, S11, M11, -, -⟩ := id (fp9.keep K0 (ninS ne2 nin0))
  refine own_go (X10.arraylength hx (by rw [e10]; exact Ar11.1) (State.isArrayOf_alike hZ.alike Ar11.2.1) (g := (mkF m 38 #[rv a1, iv (1 : Int32), rv b] [(.ref b), (.int (1 : Int32))])) rfl rfl (hb hby d21_38)) ?_
  rw [len_of S11 M11]
  refine own_go (fun _ k => XS.icmpYes X10.here hx rfl (pc0 := 39) (pc' := 50) rfl (hb hby d21_39) rfl (tlt (by decide : (1 : Int32) < (10 : Int32))).1 (by decide) (by decide) k) ?_
  refine own_go (fun _ k => XS.aloadN X10.here hx rfl (hb hby d21_50) rfl rfl k) ?_
  refine own_go (fun _ k => XS.iloadN X10.here hx rfl (hb hby d21_51) rfl k) ?_
  refine own_go (fun _ k => XS.iconst X10.here hx rfl (hb hby d21_52) k) ?_
  refine own_go (fun _ k => XS.iadd X10.here hx rfl (hb hby d21_53) rfl k) ?_
  obtain ⟨T12, h12, X12, e12, W12, st12⟩ := putF X10 hx hZ hown (host := "") (Or.inl (ow91 hw)) Via.refl e10 fp2 fp0 (Or.inl (ow92 hw)) (ow67 hw) (ty := .int) own_fd0 rfl rfl (g := (mkF m 54 #[rv a1, iv (1 : Int32), rv b] [(.int (2 : Int32)), (.ref a1)])) rfl rfl (hb hby d21_54)
  refine own_go st12 ?_
  clear st12 X10 e10
  replace N0 := Fr.snoc X12 N0 big_a1
  replace fp0 := fp0.wr W12
  replace fp1 := fp1.other W12 (.inr (own_sn39 hw).symm)
  replace fp2 := fp2.same W12
  replace fp3 := fp3.other W12 (.inr (own_sn42 hw).symm)
  replace fp4 := fp4.other W12 (.inr (own_sn44 hw).symm)
  replace O0 := own_oldWr O0 W12 big_a1
  replace K0 := K0.wr W12 (Or.inl (List.mem_of_getElem? (i := 0) rfl))
  clear W12
  show own_Go p e below s _ _ _ (T12.setTop (mkF m 57 #[rv a1, iv (1 : Int32), rv b] []))
  refine own_go (fun _ k => XS.aloadN X12.here hx rfl (hb hby d21_57) rfl rfl k) ?_
  refine own_go (fun _ k => XS.aloadN X12.here hx rfl (hb hby d21_58) rfl rfl k) ?_
  refine own_go (fun _ k => XS.iloadN X12.here hx rfl (hb hby d21_59) rfl k) ?_
  refine own_go (fun _ k => XS.dupX1 X12.here hx rfl (hb hby d21_60) rfl rfl rfl k) ?_
  obtain ⟨T13, h13, X13, e13, W13, st13⟩ := putF X12 hx hZ hown (host := "") (Or.inl (ow76 hw)) Via.refl e12 fp3 fp0 (Or.inl (ow77 hw)) (ow67 hw) (ty := .int) own_fd0 rfl rfl (g := (mkF m 61 #[rv a1, iv (1 : Int32), rv b] [(.int (1 : Int32)), (.ref a1), (.int (1 : Int32)), (.ref b)])) rfl rfl (hb hby d21_61)
  refine own_go st13 ?_
  clear st13 X12 e12
  replace N0 := Fr.snoc X13 N0 big_a1
  replace fp0 := fp0.wr W13
  replace fp1 := fp1.other W13 (.inr (own_sn40 hw).symm)
  replace fp2 := fp2.other W13 (.inr (own_sn42 hw))
  replace fp3 := fp3.same W13
  replace fp4 := fp4.other W13 (.inr (own_sn43 hw))
  replace O0 := own_oldWr O0 W13 big_a1
  replace K0 := K0.wr W13 (Or.inl (List.mem_of_getElem? (i := 0) rfl))
  clear W13
  obtain ⟨cl14, Ar14, -, S14, -, P14, -⟩ := id (fp9.keep K0 (ninS ne2 nin0))
  have hin14 : ¬ ((1 : Int32) < 0 ∨ cl14.slots.size ≤ ((1 : Int32)).toNatClampNeg) := inb_of S14 ⟨by decide, by decide⟩
  refine own_go (X13.aaload hx (j := (1 : Int32)) (v := (.ref el2)) (by rw [e13]; exact Ar14.1) (State.isArrayOf_alike hZ.alike Ar14.2.1) rfl Ar14.2.2 hin14 (P14.at hin14 rfl) (g := (mkF m 64 #[rv a1, iv (1 : Int32), rv b] [(.int (1 : Int32)), (.ref b)])) rfl rfl (hb hby d21_64)) ?_
  show own_Go p e below s _ _ _ (T13.setTop (mkF m 65 #[rv a1, iv (1 : Int32), rv b] [(.ref el2)]))
  refine own_retA X13 hx hlk e13 hret rfl rfl (hb hby d21_65) (by show _ ≤ 0; omega) (by show _ ≤ 0; omega) ?_
  exact ⟨rfl, N0, K0, fp0, fp1, fp2, fp3, fp4⟩
def Q_nx_3_2 (Z : State) (wd : Addr) (kd : ClassId) (a1 : Addr) (a2 : Addr) (mc : Int32) (lr : Int32) (b : Addr) (k : ClassId) (el1 : Addr) (el2 : Addr) (el3 : Addr) (h0 : Heap) (v : Option Value) (h : Heap) (L : List Loc) : Prop := (v = some (.ref el3) ∧ Fr Z.heap.size L ∧ Keep h0 h [a1] ∧ Exa Z h a1 "java/util/ArrayList$Itr" ∧ Fld Z h a1 "java/util/ArrayList$Itr" "this$0" "Ljava/util/ArrayList;" (.ref a2) ∧ Fld Z h a1 "java/util/ArrayList$Itr" "cursor" "I" (.int (3 : Int32)) ∧ Fld Z h a1 "java/util/ArrayList$Itr" "lastRet" "I" (.int (2 : Int32)) ∧ Fld Z h a1 "java/util/ArrayList$Itr" "expectedModCount" "I" (.int mc))
theorem ef_nx_3_2 (m : MethodId) (x0 : Addr) : entryFrame m #[(.ref x0)] 3 = mkF m 0 #[rv x0, .unset, .unset] [] := by first | (simp [entryFrame, mkF, argsToLocals, Value.category]; done) | rfl
set_option maxRecDepth 65536 in
set_option maxHeartbeats 40000000 in
theorem rm_nx_3_2 (l : Launch) (Z : State) (a0 : Array Value) (hw : ∀ d ∈ tables_1, d.before a0 Z = true) {wd : Addr} {kd : ClassId} (oDE : Sta Z Z.heap "java/util/ArrayList" "DEFAULTCAPACITY_EMPTY_ELEMENTDATA" "[Ljava/lang/Object;" (.ref wd)) (oDV : Arv Z Z.heap wd kd (.object "java/lang/Object") (0 : Int32) [] .null) (ws : List Jvm.Cond) (a1 : Addr) (a2 : Addr) (mc : Int32) (lr : Int32) (b : Addr) (k : ClassId) (el1 : Addr) (el2 : Addr) (el3 : Addr) (h0 : Heap) (O0 : Ext Z.heap h0) (fp0 : Exa Z h0 a1 "java/util/ArrayList$Itr") (fp1 : Fld Z h0 a1 "java/util/ArrayList$Itr" "this$0" "Ljava/util/ArrayList;" (.ref a2)) (fp2 : Fld Z h0 a1 "java/util/ArrayList$Itr" "cursor" "I" (.int (2 : Int32))) (fp3 : Fld Z h0 a1 "java/util/ArrayList$Itr" "lastRet" "I" (.int lr)) (fp4 : Fld Z h0 a1 "java/util/ArrayList$Itr" "expectedModCount" "I" (.int mc)) (fp5 : Exa Z h0 a2 "java/util/ArrayList") (fp6 : Fld Z h0 a2 "java/util/ArrayList" "size" "I" (.int (3 : Int32))) (fp7 : Fld Z h0 a2 "java/util/ArrayList" "elementData" "[Ljava/lang/Object;" (.ref b)) (fp8 : Fld Z h0 a2 "java/util/AbstractList" "modCount" "I" (.int mc)) (fp9 : Arv Z h0 b k (.object "java/lang/Object") (10 : Int32) [(.ref el1), (.ref el2), (.ref el3), .null, .null, .null, .null, .null, .null, .null] .null) (big_a1 : Z.heap.size ≤ a1) :
    own_MF l Z h0 (⟨"java/util/ArrayList$Itr", "next", "()Ljava/lang/Object;"⟩ : MethodName) jdk_49_method_3_code 3 (some (.object "java/lang/Object")) ({ frames := 1, cells := 0, slots := 0, locals := 12 } : Room) #[(.ref a1)] (Q_nx_3_2 Z wd kd a1 a2 mc lr b k el1 el2 el3 h0) ws := by
  refine own_met (Q := (Q_nx_3_2 Z wd kd a1 a2 mc lr b k el1 el2 el3 h0)) _ _ (plainFor_of_name own_pn_6) ?_
  intro p e s m below meth c T X0 hx hby hml hret hlk hZ hown hnm e0
  replace hown : s.vm.findClass "java/util/ArrayList$Itr" = some m.cls := hown
  replace hnm : meth.name = "next" := hnm
  have hml : c.maxLocals = 3 := hml
  have N0 := Fr.nil Z.heap.size
  have K0 := Keep.refl h0 [a1]
  refine own_go (fun _ k => castTop (ef_nx_3_2 m a1) k) ?_
  have ne1 : a2 ≠ a1 := (ne_exa fp5 fp0 (by decide))
  have ne2 : b ≠ a1 := (Ne.symm (Exa.neArv fp0 fp9 (ow67 hw)))
  show own_Go p e below s _ _ _ (T.setTop (mkF m 0 #[rv a1, .unset, .unset] []))
  refine own_go (fun _ k => XS.aloadN X0.here hx rfl (hb hby d21_0) rfl rfl k) ?_
  obtain ⟨v3, T3, L3, X3, hQ3, st3⟩ := own_callV (y := (⟨"java/util/ArrayList$Itr", "checkForComodification", "()V"⟩ : MethodName)) (z := (⟨"java/util/ArrayList$Itr", "checkForComodification", "()V"⟩ : MethodName)) X0 hx hZ hown (ow184 hw) (ow185 hw) (notFace_of_selects (args := #[]) (mvT hZ (ow187 hw))) (ow187 hw) (ow186 hw) (ow68 hw) (ow188 hw) (rm_cfc l Z a0 hw oDE oDV [] a1 a2 mc h0 O0 fp1 fp4 (fp8.keep K0 (ninS ne1 nin0))) 0 0 0 (by show _ ≤ 0; omega) (by show _ ≤ 0; omega) e0 fp0 (g := (mkF m 1 #[rv a1, .unset, .unset] [(.ref a1)])) rfl (by rw [hml]; rfl) [] [] (lenOf own_pd_0 rfl) rfl rfl (hb hby d21_1)
  obtain ⟨rfl, Nc5, Kc4⟩ := hQ3
  refine own_go st3 ?_
  clear st3 X0 e0
  replace N0 := Fr.app N0 Nc5
  clear Nc5
  refine own_go (fun _ k => XS.aloadN X3.here hx rfl (hb hby d21_4) rfl rfl k) ?_
  obtain ⟨T6, X6, e6, st6⟩ := getF X3 hx hZ hown (host := "") (Or.inl (ow91 hw)) Via.refl Kc4 fp2 (g := (mkF m 5 #[rv a1, .unset, .unset] [(.ref a1)])) rfl rfl (hb hby d21_5)
  refine own_go st6 ?_
  clear st6 X3 Kc4
  refine own_go (fun _ k => XS.istoreN X6.here hx rfl (hb hby d21_8) rfl (l' := #[rv a1, iv (2 : Int32), .unset]) rfl k) ?_
  refine own_go (fun _ k => XS.iloadN X6.here hx rfl (hb hby d21_9) rfl k) ?_
  refine own_go (fun _ k => XS.aloadN X6.here hx rfl (hb hby d21_10) rfl rfl k) ?_
  show own_Go p e below s _ _ _ (T6.setTop (mkF m 11 #[rv a1, iv (2 : Int32), .unset] [(.ref a1), (.int (2 : Int32))]))
  obtain ⟨T7, X7, e7, st7⟩ := getF X6 hx hZ hown (host := "") (Or.inl (ow73 hw)) Via.refl e6 fp1 (g := (mkF m 11 #[rv a1, iv (2 : Int32), .unset] [(.ref a1), (.int (2 : Int32))])) rfl rfl (hb hby d21_11)
  refine own_go st7 ?_
  clear st7 X6 e6
  obtain ⟨T8, X8, e8, st8⟩ := getF X7 hx hZ hown (Or.inr (ow93 hw)) Via.refl e7 (fp6.keep K0 (ninS ne1 nin0)) (g := (mkF m 14 #[rv a1, iv (2 : Int32), .unset] [(.ref a2), (.int (2 : Int32))])) rfl rfl (hb hby d21_14)
  refine own_go st8 ?_
  clear st8 X7 e7
  refine own_go (fun _ k => XS.icmpYes X8.here hx rfl (pc0 := 17) (pc' := 28) rfl (hb hby d21_17) rfl (tlt (by decide : (2 : Int32) < (3 : Int32))).1 (by decide) (by decide) k) ?_
  refine own_go (fun _ k => XS.aloadN X8.here hx rfl (hb hby d21_28) rfl rfl k) ?_
  obtain ⟨T9, X9, e9, st9⟩ := getF X8 hx hZ hown (host := "") (Or.inl (ow73 hw)) Via.refl e8 fp1 (g := (mkF m 29 #[rv a1, iv (2 : Int32), .unset] [(.ref a1)])) rfl rfl (hb hby d21_29)
  refine own_go st9 ?_
  clear st9 X8 e8
  obtain ⟨T10, X10, e10, st10⟩ := getF X9 hx hZ hown (host := "") (Or.inl (ow189 hw)) Via.refl e9 (fp7.keep K0 (ninS ne1 nin0)) (g := (mkF m 32 #[rv a1, iv (2 : Int32), .unset] [(.ref a2)])) rfl rfl (hb hby d21_32)
  refine own_go st10 ?_
  clear st10 X9 e9
  refine own_go (fun _ k => XS.astoreN X10.here hx rfl (hb hby d21_35) rfl rfl (l' := #[rv a1, iv (2 : Int32), rv b]) rfl k) ?_
  show own_Go p e below s _ _ _ (T10.setTop (mkF m 36 #[rv a1, iv (2 : Int32), rv b] []))
  refine own_go (fun _ k => XS.iloadN X10.here hx rfl (hb hby d21_36) rfl k) ?_
  refine own_go (fun _ k => XS.aloadN X10.here hx rfl (hb hby d21_37) rfl rfl k) ?_
  show own_Go p e below s _ _ _ (T10.setTop (mkF m 38 #[rv a1, iv (2 : Int32), rv b] [(.ref b), (.int (2 : Int32))]))
  obtain ⟨cl11, Ar11, -, S11, M11, -, -⟩ := id (fp9.keep K0 (ninS ne2 nin0))
  refine own_go (X10.arraylength hx (by rw [e10]; exact Ar11.1) (State.isArrayOf_alike hZ.alike Ar11.2.1) (g := (mkF m 38 #[rv a1, iv (2 : Int32), rv b] [(.ref b), (.int (2 : Int32))])) rfl rfl (hb hby d21_38)) ?_
  rw [len_of S11 M11]
  refine own_go (fun _ k => XS.icmpYes X10.here hx rfl (pc0 := 39) (pc' := 50) rfl (hb hby d21_39) rfl (tlt (by decide : (2 : Int32) < (10 : Int32))).1 (by decide) (by decide) k) ?_
  refine own_go (fun _ k => XS.aloadN X10.here hx rfl (hb hby d21_50) rfl rfl k) ?_
  refine own_go (fun _ k => XS.iloadN X10.here hx rfl (hb hby d21_51) rfl k) ?_
  refine own_go (fun _ k => XS.iconst X10.here hx rfl (hb hby d21_52) k) ?_
  refine own_go (fun _ k => XS.iadd X10.here hx rfl (hb hby d21_53) rfl k) ?_
  obtain ⟨T12, h12, X12, e12, W12, st12⟩ := putF X10 hx hZ hown (host := "") (Or.inl (ow91 hw)) Via.refl e10 fp2 fp0 (Or.inl (ow92 hw)) (ow67 hw) (ty := .int) own_fd0 rfl rfl (g := (mkF m 54 #[rv a1, iv (2 : Int32), rv b] [(.int (3 : Int32)), (.ref a1)])) rfl rfl (hb hby d21_54)
  refine own_go st12 ?_
  clear st12 X10 e10
  replace N0 := Fr.snoc X12 N0 big_a1
  replace fp0 := fp0.wr W12
  replace fp1 := fp1.other W12 (.inr (own_sn39 hw).symm)
  replace fp2 := fp2.same W12
  replace fp3 := fp3.other W12 (.inr (own_sn42 hw).symm)
  replace fp4 := fp4.other W12 (.inr (own_sn44 hw).symm)
  replace O0 := own_oldWr O0 W12 big_a1
  replace K0 := K0.wr W12 (Or.inl (List.mem_of_getElem? (i := 0) rfl))
  clear W12
  show own_Go p e below s _ _ _ (T12.setTop (mkF m 57 #[rv a1, iv (2 : Int32), rv b] []))
  refine own_go (fun _ k => XS.aloadN X12.here hx rfl (hb hby d21_57) rfl rfl k) ?_
  refine own_go (fun _ k => XS.aloadN X12.here hx rfl (hb hby d21_58) rfl rfl k) ?_
  refine own_go (fun _ k => XS.iloadN X12.here hx rfl (hb hby d21_59) rfl k) ?_
  refine own_go (fun _ k => XS.dupX1 X12.here hx rfl (hb hby d21_60) rfl rfl rfl k) ?_
  obtain ⟨T13, h13, X13, e13, W13, st13⟩ := putF X12 hx hZ hown (host := "") (Or.inl (ow76 hw)) Via.refl e12 fp3 fp0 (Or.inl (ow77 hw)) (ow67 hw) (ty := .int) own_fd0 rfl rfl (g := (mkF m 61 #[rv a1, iv (2 : Int32), rv b] [(.int (2 : Int32)), (.ref a1), (.int (2 : Int32)), (.ref b)])) rfl rfl (hb hby d21_61)
  refine own_go st13 ?_
  clear st13 X12 e12
  replace N0 := Fr.snoc X13 N0 big_a1
  replace fp0 := fp0.wr W13
  replace fp1 := fp1.other W13 (.inr (own_sn40 hw).symm)
  replace fp2 := fp2.other W13 (.inr (own_sn42 hw))
  replace fp3 := fp3.same W13
  replace fp4 := fp4.other W13 (.inr (own_sn43 hw))
  replace O0 := own_oldWr O0 W13 big_a1
  replace K0 := K0.wr W13 (Or.inl (List.mem_of_getElem? (i := 0) rfl))
  clear W13
  obtain ⟨cl14, Ar14, -, S14, -, P14, -⟩ := id (fp9.keep K0 (ninS ne2 nin0))
  have hin14 : ¬ ((2 : Int32) < 0 ∨ cl14.slots.size ≤ ((2 : Int32)).toNatClampNeg) := inb_of S14 ⟨by decide, by decide⟩
  refine own_go (X13.aaload hx (j := (2 : Int32)) (v := (.ref el3)) (by rw [e13]; exact Ar14.1) (State.isArrayOf_alike hZ.alike Ar14.2.1) rfl Ar14.2.2 hin14 (P14.at hin14 rfl) (g := (mkF m 64 #[rv a1, iv (2 : Int32), rv b] [(.int (2 : Int32)), (.ref b)])) rfl rfl (hb hby d21_64)) ?_
  show own_Go p e below s _ _ _ (T13.setTop (mkF m 65 #[rv a1, iv (2 : Int32), rv b] [(.ref el3)]))
  refine own_retA X13 hx hlk e13 hret rfl rfl (hb hby d21_65) (by show _ ≤ 0; omega) (by show _ ≤ 0; omega) ?_
  exact ⟨rfl, N0, K0, fp0, fp1, fp2, fp3, fp4⟩
theorem d5_0 : decode prog_30_method_1_code 0 = .ok (.aload_n 0, 1) := by decide +kernel
theorem d5_1 : decode prog_30_method_1_code 1 = .ok (.invokespecial 1, 3) := by decide +kernel
theorem d5_4 : decode prog_30_method_1_code 4 = .ok (.aload_n 0, 1) := by decide +kernel
theorem d5_5 : decode prog_30_method_1_code 5 = .ok (.iload_n 1, 1) := by decide +kernel
theorem d5_6 : decode prog_30_method_1_code 6 = .ok (.putfield 7, 3) := by decide +kernel
theorem d5_9 : decode prog_30_method_1_code 9 = .ok (.aload_n 0, 1) := by decide +kernel
theorem d5_10 : decode prog_30_method_1_code 10 = .ok (.aload_n 2, 1) := by decide +kernel
theorem d5_11 : decode prog_30_method_1_code 11 = .ok (.invokeinterface 13 1, 5) := by decide +kernel
theorem d5_16 : decode prog_30_method_1_code 16 = .ok (.newarray .int, 2) := by decide +kernel
theorem d5_18 : decode prog_30_method_1_code 18 = .ok (.putfield 19, 3) := by decide +kernel
theorem d5_21 : decode prog_30_method_1_code 21 = .ok (.aload_n 0, 1) := by decide +kernel
theorem d5_22 : decode prog_30_method_1_code 22 = .ok (.aload_n 2, 1) := by decide +kernel
theorem d5_23 : decode prog_30_method_1_code 23 = .ok (.invokeinterface 13 1, 5) := by decide +kernel
theorem d5_28 : decode prog_30_method_1_code 28 = .ok (.newarray .int, 2) := by decide +kernel
theorem d5_30 : decode prog_30_method_1_code 30 = .ok (.putfield 23, 3) := by decide +kernel
theorem d5_33 : decode prog_30_method_1_code 33 = .ok (.aload_n 0, 1) := by decide +kernel
theorem d5_34 : decode prog_30_method_1_code 34 = .ok (.aload_n 2, 1) := by decide +kernel
theorem d5_35 : decode prog_30_method_1_code 35 = .ok (.invokeinterface 13 1, 5) := by decide +kernel
theorem d5_40 : decode prog_30_method_1_code 40 = .ok (.newarray .int, 2) := by decide +kernel
theorem d5_42 : decode prog_30_method_1_code 42 = .ok (.putfield 26, 3) := by decide +kernel
theorem d5_45 : decode prog_30_method_1_code 45 = .ok (.aload_n 0, 1) := by decide +kernel
theorem d5_46 : decode prog_30_method_1_code 46 = .ok (.aload_n 2, 1) := by decide +kernel
theorem d5_47 : decode prog_30_method_1_code 47 = .ok (.invokeinterface 13 1, 5) := by decide +kernel
theorem d5_52 : decode prog_30_method_1_code 52 = .ok (.anewarray 29, 3) := by decide +kernel
theorem d5_55 : decode prog_30_method_1_code 55 = .ok (.putfield 30, 3) := by decide +kernel
theorem d5_58 : decode prog_30_method_1_code 58 = .ok (.aload_n 2, 1) := by decide +kernel
theorem d5_59 : decode prog_30_method_1_code 59 = .ok (.invokeinterface 34 1, 5) := by decide +kernel
theorem d5_64 : decode prog_30_method_1_code 64 = .ok (.astore 6, 2) := by decide +kernel
theorem d5_66 : decode prog_30_method_1_code 66 = .ok (.aload 6, 2) := by decide +kernel
theorem d5_68 : decode prog_30_method_1_code 68 = .ok (.invokeinterface 38 1, 5) := by decide +kernel
theorem d5_73 : decode prog_30_method_1_code 73 = .ok (.ifCond .eq 113, 3) := by decide +kernel
theorem d5_186 : decode prog_30_method_1_code 186 = .ok (.aload_n 0, 1) := by decide +kernel
theorem d5_187 : decode prog_30_method_1_code 187 = .ok (.iload 5, 2) := by decide +kernel
theorem d5_189 : decode prog_30_method_1_code 189 = .ok (.putfield 69, 3) := by decide +kernel
theorem d5_192 : decode prog_30_method_1_code 192 = .ok (.aload_n 0, 1) := by decide +kernel
theorem d5_193 : decode prog_30_method_1_code 193 = .ok (.iload_n 3, 1) := by decide +kernel
theorem d5_194 : decode prog_30_method_1_code 194 = .ok (.putfield 72, 3) := by decide +kernel
theorem d5_197 : decode prog_30_method_1_code 197 = .ok (.aload_n 0, 1) := by decide +kernel
theorem d5_198 : decode prog_30_method_1_code 198 = .ok (.iload 4, 2) := by decide +kernel
theorem d5_200 : decode prog_30_method_1_code 200 = .ok (.putfield 75, 3) := by decide +kernel
theorem d5_203 : decode prog_30_method_1_code 203 = .ok (.return_, 1) := by decide +kernel
def Q_lrinit0 (Z : State) (wd : Addr) (kd : ClassId) (a1 : Addr) (p2 : Int32) (a3 : Addr) (p4 : Int32) (p5 : Int32) (p6 : Int32) (mc : Int32) (h0 : Heap) (v : Option Value) (h : Heap) (L : List Loc) : Prop := (∃ xs : Addr, ∃ kx : ClassId, v = none ∧ Fr Z.heap.size L ∧ Keep h0 h [a1] ∧ Exa Z h a1 "com/example/nudo/nudo/LoadingResult" ∧ Fld Z h a1 "com/example/nudo/nudo/LoadingResult" "exitSteps" "[I" (.ref xs) ∧ Fld Z h a1 "com/example/nudo/nudo/LoadingResult" "vehiclesWaiting" "I" (.int p4) ∧ Fld Z h a1 "com/example/nudo/nudo/LoadingResult" "vehiclesInNetwork" "I" (.int p5) ∧ Arv Z h xs kx .int (0 : Int32) [] (.int (0 : Int32)))
theorem ef_lrinit0 (m : MethodId) (x0 : Addr) (x1 : Int32) (x2 : Addr) (x3 : Int32) (x4 : Int32) (x5 : Int32) : entryFrame m #[(.ref x0), (.int x1), (.ref x2), (.int x3), (.int x4), (.int x5)] 10 = mkF m 0 #[rv x0, iv x1, rv x2, iv x3, iv x4, iv x5, .unset, .unset, .unset, .unset] [] := by first | (simp [entryFrame, mkF, argsToLocals, Value.category]; done) | rfl
set_option maxRecDepth 65536 in
set_option maxHeartbeats 40000000 in
theorem rm_lrinit0 (l : Launch) (Z : State) (a0 : Array Value) (hw : ∀ d ∈ tables_1, d.before a0 Z = true) {wd : Addr} {kd : ClassId} (oDE : Sta Z Z.heap "java/util/ArrayList" "DEFAULTCAPACITY_EMPTY_ELEMENTDATA" "[Ljava/lang/Object;" (.ref wd)) (oDV : Arv Z Z.heap wd kd (.object "java/lang/Object") (0 : Int32) [] .null) (ws : List Jvm.Cond) (a1 : Addr) (p2 : Int32) (a3 : Addr) (p4 : Int32) (p5 : Int32) (p6 : Int32) (mc : Int32) (h0 : Heap) (O0 : Ext Z.heap h0) (fp0 : Exa Z h0 a1 "com/example/nudo/nudo/LoadingResult") (fp1 : Fld Z h0 a1 "com/example/nudo/nudo/LoadingResult" "timeStep" "I" (.int (0 : Int32))) (fp2 : Fld Z h0 a1 "com/example/nudo/nudo/LoadingResult" "departureSteps" "[I" .null) (fp3 : Fld Z h0 a1 "com/example/nudo/nudo/LoadingResult" "exitSteps" "[I" .null) (fp4 : Fld Z h0 a1 "com/example/nudo/nudo/LoadingResult" "freeFlowSteps" "[I" .null) (fp5 : Fld Z h0 a1 "com/example/nudo/nudo/LoadingResult" "linkEntrySteps" "[[I" .null) (fp6 : Fld Z h0 a1 "com/example/nudo/nudo/LoadingResult" "endStep" "I" (.int (0 : Int32))) (fp7 : Fld Z h0 a1 "com/example/nudo/nudo/LoadingResult" "vehiclesWaiting" "I" (.int (0 : Int32))) (fp8 : Fld Z h0 a1 "com/example/nudo/nudo/LoadingResult" "vehiclesInNetwork" "I" (.int (0 : Int32))) (fp9 : Exa Z h0 a3 "java/util/ArrayList") (fp10 : Fld Z h0 a3 "java/util/ArrayList" "size" "I" (.int (0 : Int32))) (fp11 : Fld Z h0 a3 "java/util/ArrayList" "elementData" "[Ljava/lang/Object;" (.ref wd)) (fp12 : Fld Z h0 a3 "java/util/AbstractList" "modCount" "I" (.int mc)) (big_a1 : Z.heap.size ≤ a1) :
    own_MF l Z h0 (⟨"com/example/nudo/nudo/LoadingResult", "<init>", "(ILjava/util/List;III)V"⟩ : MethodName) prog_30_method_1_code 10 none ({ frames := 3, cells := 5, slots := 4, locals := 38 } : Room) #[(.ref a1), (.int p2), (.ref a3), (.int p4), (.int p5), (.int p6)] (Q_lrinit0 Z wd kd a1 p2 a3 p4 p5 p6 mc h0) ws := by
  refine own_met (Q := (Q_lrinit0 Z wd kd a1 p2 a3 p4 p5 p6 mc h0)) _ _ (plainFor_of_name own_pn_7) ?_
  intro p e s m below meth c T X0 hx hby hml hret hlk hZ hown hnm e0
  replace hown : s.vm.findClass "com/example/nudo/nudo/LoadingResult" = some m.cls := hown
  replace hnm : meth.name = "<init>" := hnm
  have hml : c.maxLocals = 10 := hml
  have N0 := Fr.nil Z.heap.size
  have K0 := Keep.refl h0 [a1]
  refine own_go (fun _ k => castTop (ef_lrinit0 m a1 p2 a3 p4 p5 p6) k) ?_
  have ne1 : a3 ≠ a1 := (ne_exa fp9 fp0 (by decide))
  show own_Go p e below s _ _ _ (T.setTop (mkF m 0 #[rv a1, iv p2, rv a3, iv p4, iv p5, iv p6, .unset, .unset, .unset, .unset] []))
  refine own_go (fun _ k => XS.aloadN X0.here hx rfl (hb hby d5_0) rfl rfl k) ?_
  obtain ⟨T2, X2, e2, st2⟩ := initO X0 hx hZ hown (ow33 hw) (ow20 hw) (ow21 hw) e0 (g := (mkF m 1 #[rv a1, iv p2, rv a3, iv p4, iv p5, iv p6, .unset, .unset, .unset, .unset] [(.ref a1)])) rfl (by rw [hml]; rfl) rfl (hb hby d5_1) (by decide) (W := 0) (by show 2 * 0 + _ ≤ _; exact Nat.le_of_eq rfl) (by decide)
  refine own_go st2 ?_
  clear st2 X0 e0
  refine own_go (fun _ k => XS.aloadN X2.here hx rfl (hb hby d5_4) rfl rfl k) ?_
  refine own_go (fun _ k => XS.iloadN X2.here hx rfl (hb hby d5_5) rfl k) ?_
  obtain ⟨T3, h3, X3, e3, W3, st3⟩ := putF X2 hx hZ hown (host := "") (Or.inl (ow34 hw)) Via.refl e2 fp1 fp0 (Or.inr ⟨(ow35 hw), rfl, hnm⟩) (ow28 hw) (ty := .int) own_fd0 rfl rfl (g := (mkF m 6 #[rv a1, iv p2, rv a3, iv p4, iv p5, iv p6, .unset, .unset, .unset, .unset] [(.int p2), (.ref a1)])) rfl rfl (hb hby d5_6)
  refine own_go st3 ?_
  clear st3 X2 e2
  replace N0 := Fr.snoc X3 N0 big_a1
  replace fp0 := fp0.wr W3
  replace fp1 := fp1.same W3
  replace fp2 := fp2.other W3 (.inr (own_sn45 hw))
  replace fp3 := fp3.other W3 (.inr (own_sn46 hw))
  replace fp4 := fp4.other W3 (.inr (own_sn47 hw))
  replace fp5 := fp5.other W3 (.inr (own_sn48 hw))
  replace fp6 := fp6.other W3 (.inr (own_sn49 hw))
  replace fp7 := fp7.other W3 (.inr (own_sn50 hw))
  replace fp8 := fp8.other W3 (.inr (own_sn51 hw))
  replace O0 := own_oldWr O0 W3 big_a1
  replace K0 := K0.wr W3 (Or.inl (List.mem_of_getElem? (i := 0) rfl))
  clear W3
  refine own_go (fun _ k => XS.aloadN X3.here hx rfl (hb hby d5_9) rfl rfl k) ?_
  refine own_go (fun _ k => XS.aloadN X3.here hx rfl (hb hby d5_10) rfl rfl k) ?_
  show own_Go p e below s _ _ _ (T3.setTop (mkF m 11 #[rv a1, iv p2, rv a3, iv p4, iv p5, iv p6, .unset, .unset, .unset, .unset] [(.ref a3), (.ref a1)]))
  obtain ⟨v4, T4, L4, X4, hQ4, st4⟩ := own_callF (xi := (⟨"java/util/List", "size", "()I"⟩ : MethodName)) (y := (⟨"java/util/ArrayList", "size", "()I"⟩ : MethodName)) X3 hx hZ hown (ow36 hw) (ow37 hw) (ow38 hw) (ow39 hw) (ow40 hw) (ow41 hw) (ow42 hw) (ow43 hw) (ow3 hw) (ow44 hw) (by decide) (rm_alsize l Z a0 hw oDE oDV [] a3 (0 : Int32) h3 O0 (fp10.keep K0 (ninS ne1 nin0))) 1 0 0 (by show _ ≤ 5; omega) (by show _ ≤ 4; omega) e3 (fp9.keep K0) (g := (mkF m 11 #[rv a1, iv p2, rv a3, iv p4, iv p5, iv p6, .unset, .unset, .unset, .unset] [(.ref a3), (.ref a1)])) rfl (by rw [hml]; rfl) [] [(.ref a1)] (lenOf own_pd_9 rfl) rfl rfl (hb hby d5_11)
  obtain ⟨rfl, Nc6, Kc5⟩ := hQ4
  refine own_go st4 ?_
  clear st4 X3 e3
  replace N0 := Fr.app N0 Nc6
  clear Nc6
  obtain ⟨T7, h7, k7, X7, e7, E7, A7, B7, st7⟩ := newPE (aty := .int) X4 hx hZ (ow47 hw) Kc5 (g := (mkF m 16 #[rv a1, iv p2, rv a3, iv p4, iv p5, iv p6, .unset, .unset, .unset, .unset] [(.int (0 : Int32)), (.ref a1)])) rfl (hb hby d5_16) rfl (by decide) (cap := 0) (by decide) (by decide) (by show _ ≤ 5; omega) (by show _ ≤ 4; omega) (ad := "[I") (by decide)
  obtain ⟨b7, g7⟩ : ∃ z, z = h3.size := ⟨_, rfl⟩
  rw [← g7] at A7 B7 st7
  refine own_go st7 ?_
  clear st7 X4 Kc5
  have ge7 := Nat.le_of_eq g7.symm
  have ne8 : a1 ≠ b7 := Nat.ne_of_lt (Nat.lt_of_lt_of_le fp0.lt ge7)
  have big9 : Z.heap.size ≤ b7 := Nat.le_trans O0.1 ge7
  have sz10 : h0.size ≤ b7 := Nat.le_trans K0.1 ge7
  replace fp0 := fp0.ext E7
  replace fp1 := fp1.ext E7
  replace fp2 := fp2.ext E7
  replace fp3 := fp3.ext E7
  replace fp4 := fp4.ext E7
  replace fp5 := fp5.ext E7
  replace fp6 := fp6.ext E7
  replace fp7 := fp7.ext E7
  replace fp8 := fp8.ext E7
  replace O0 := own_oldExt O0 E7
  replace K0 := K0.ext E7
  clear E7
  have f11 : Arv Z h7 b7 k7 .int (0 : Int32) [] (.int (0 : Int32)) := (Arv.new A7 (by decide)).pad (pad_rep [] (.int (0 : Int32)) 0)
  obtain ⟨T12, h12, X12, e12, W12, st12⟩ := putF X7 hx hZ hown (host := "") (Or.inl (ow48 hw)) Via.refl e7 fp2 fp0 (Or.inr ⟨(ow49 hw), rfl, hnm⟩) (ow28 hw) (ty := (.array .int)) own_fd4 rfl rfl (g := (mkF m 18 #[rv a1, iv p2, rv a3, iv p4, iv p5, iv p6, .unset, .unset, .unset, .unset] [(.ref b7), (.ref a1)])) rfl rfl (hb hby d5_18)
  refine own_go st12 ?_
  clear st12 X7 e7
  replace N0 := Fr.snoc X12 N0 big_a1
  replace fp0 := fp0.wr W12
  replace fp1 := fp1.other W12 (.inr (own_sn45 hw).symm)
  replace fp2 := fp2.same W12
  replace fp3 := fp3.other W12 (.inr (own_sn52 hw))
  replace fp4 := fp4.other W12 (.inr (own_sn53 hw))
  replace fp5 := fp5.other W12 (.inr (own_sn54 hw))
  replace fp6 := fp6.other W12 (.inr (own_sn55 hw))
  replace fp7 := fp7.other W12 (.inr (own_sn56 hw))
  replace fp8 := fp8.other W12 (.inr (own_sn57 hw))
  replace B7 := B7.wr W12
  replace f11 := f11.other W12 ne8.symm
  replace O0 := own_oldWr O0 W12 big_a1
  replace K0 := K0.wr W12 (Or.inl (List.mem_of_getElem? (i := 0) rfl))
  clear W12
  refine own_go (fun _ k => XS.aloadN X12.here hx rfl (hb hby d5_21) rfl rfl k) ?_
  refine own_go (fun _ k => XS.aloadN X12.here hx rfl (hb hby d5_22) rfl rfl k) ?_
  obtain ⟨v13, T13, L13, X13, hQ13, st13⟩ := own_callF (xi := (⟨"java/util/List", "size", "()I"⟩ : MethodName)) (y := (⟨"java/util/ArrayList", "size", "()I"⟩ : MethodName)) X12 hx hZ hown (ow36 hw) (ow37 hw) (ow38 hw) (ow39 hw) (ow40 hw) (ow41 hw) (ow42 hw) (ow43 hw) (ow3 hw) (ow44 hw) (by decide) (rm_alsize l Z a0 hw oDE oDV [] a3 (0 : Int32) h12 O0 (fp10.keep K0 (ninS ne1 nin0))) 1 0 0 (by show _ ≤ 5; omega) (by show _ ≤ 4; omega) e12 (fp9.keep K0) (g := (mkF m 23 #[rv a1, iv p2, rv a3, iv p4, iv p5, iv p6, .unset, .unset, .unset, .unset] [(.ref a3), (.ref a1)])) rfl (by rw [hml]; rfl) [] [(.ref a1)] (lenOf own_pd_9 rfl) rfl rfl (hb hby d5_23)
  obtain ⟨rfl, Nc15, Kc14⟩ := hQ13
  refine own_go st13 ?_
  clear st13 X12 e12
  replace N0 := Fr.app N0 Nc15
  clear Nc15
  obtain ⟨T16, h16, k16, X16, e16, E16, A16, B16, st16⟩ := newPE (aty := .int) X13 hx hZ (ow47 hw) Kc14 (g := (mkF m 28 #[rv a1, iv p2, rv a3, iv p4, iv p5, iv p6, .unset, .unset, .unset, .unset] [(.int (0 : Int32)), (.ref a1)])) rfl (hb hby d5_28) rfl (by decide) (cap := 0) (by decide) (by decide) (by show _ ≤ 5; omega) (by show _ ≤ 4; omega) (ad := "[I") (by decide)
  obtain ⟨b16, g16⟩ : ∃ z, z = h12.size := ⟨_, rfl⟩
  rw [← g16] at A16 B16 st16
  refine own_go st16 ?_
  clear st16 X13 Kc14
  have ge16 := Nat.le_of_eq g16.symm
  have ne17 : a1 ≠ b16 := Nat.ne_of_lt (Nat.lt_of_lt_of_le fp0.lt ge16)
  have ne18 : b7 ≠ b16 := Nat.ne_of_lt (Nat.lt_of_lt_of_le B7.lt ge16)
  have big19 : Z.heap.size ≤ b16 := Nat.le_trans O0.1 ge16
  have sz20 : h0.size ≤ b16 := Nat.le_trans K0.1 ge16
  replace fp0 := fp0.ext E16
  replace fp1 := fp1.ext E16
  replace fp2 := fp2.ext E16
  replace fp3 := fp3.ext E16
  replace fp4 := fp4.ext E16
  replace fp5 := fp5.ext E16
  replace fp6 := fp6.ext E16
  replace fp7 := fp7.ext E16
  replace fp8 := fp8.ext E16
  replace B7 := B7.ext E16
  replace f11 := f11.ext E16
  replace O0 := own_oldExt O0 E16
  replace K0 := K0.ext E16
  clear E16
  have f21 : Arv Z h16 b16 k16 .int (0 : Int32) [] (.int (0 : Int32)) := (Arv.new A16 (by decide)).pad (pad_rep [] (.int (0 : Int32)) 0)
  show own_Go p e below s _ _ _ (T16.setTop (mkF m 30 #[rv a1, iv p2, rv a3, iv p4, iv p5, iv p6, .unset, .unset, .unset, .unset] [(.ref b16), (.ref a1)]))
  obtain ⟨T22, h22, X22, e22, W22, st22⟩ := putF X16 hx hZ hown (host := "") (Or.inl (ow50 hw)) Via.refl e16 fp3 fp0 (Or.inr ⟨(ow51 hw), rfl, hnm⟩) (ow28 hw) (ty := (.array .int)) own_fd4 rfl rfl (g := (mkF m 30 #[rv a1, iv p2, rv a3, iv p4, iv p5, iv p6, .unset, .unset, .unset, .unset] [(.ref b16), (.ref a1)])) rfl rfl (hb hby d5_30)
  refine own_go st22 ?_
  clear st22 X16 e16
  replace N0 := Fr.snoc X22 N0 big_a1
  replace fp0 := fp0.wr W22
  replace fp1 := fp1.other W22 (.inr (own_sn46 hw).symm)
  replace fp2 := fp2.other W22 (.inr (own_sn52 hw).symm)
  replace fp3 := fp3.same W22
  replace fp4 := fp4.other W22 (.inr (own_sn58 hw))
  replace fp5 := fp5.other W22 (.inr (own_sn59 hw))
  replace fp6 := fp6.other W22 (.inr (own_sn60 hw))
  replace fp7 := fp7.other W22 (.inr (own_sn61 hw))
  replace fp8 := fp8.other W22 (.inr (own_sn62 hw))
  replace B7 := B7.wr W22
  replace f11 := f11.other W22 ne8.symm
  replace B16 := B16.wr W22
  replace f21 := f21.other W22 ne17.symm
  replace O0 := own_oldWr O0 W22 big_a1
  replace K0 := K0.wr W22 (Or.inl (List.mem_of_getElem? (i := 0) rfl))
  clear W22
  refine own_go (fun _ k => XS.aloadN X22.here hx rfl (hb hby d5_33) rfl rfl k) ?_
  refine own_go (fun _ k => XS.aloadN X22.here hx rfl (hb hby d5_34) rfl rfl k) ?_
  obtain ⟨v23, T23, L23, X23, hQ23, st23⟩ := own_callF (xi := (⟨"java/util/List", "size", "()I"⟩ : MethodName)) (y := (⟨"java/util/ArrayList", "size", "()I"⟩ : MethodName)) X22 hx hZ hown (ow36 hw) (ow37 hw) (ow38 hw) (ow39 hw) (ow40 hw) (ow41 hw) (ow42 hw) (ow43 hw) (ow3 hw) (ow44 hw) (by decide) (rm_alsize l Z a0 hw oDE oDV [] a3 (0 : Int32) h22 O0 (fp10.keep K0 (ninS ne1 nin0))) 1 0 0 (by show _ ≤ 5; omega) (by show _ ≤ 4; omega) e22 (fp9.keep K0) (g := (mkF m 35 #[rv a1, iv p2, rv a3, iv p4, iv p5, iv p6, .unset, .unset, .unset, .unset] [(.ref a3), (.ref a1)])) rfl (by rw [hml]; rfl) [] [(.ref a1)] (lenOf own_pd_9 rfl) rfl rfl (hb hby d5_35)
  obtain ⟨rfl, Nc25, Kc24⟩ := hQ23
  refine own_go st23 ?_
  clear st23 X22 e22
  replace N0 := Fr.app N0 Nc25
  clear Nc25
  obtain ⟨T26, h26, k26, X26, e26, E26, A26, B26, st26⟩ := newPE (aty := .int) X23 hx hZ (ow47 hw) Kc24 (g := (mkF m 40 #[rv a1, iv p2, rv a3, iv p4, iv p5, iv p6, .unset, .unset, .unset, .unset] [(.int (0 : Int32)), (.ref a1)])) rfl (hb hby d5_40) rfl (by decide) (cap := 0) (by decide) (by decide) (by show _ ≤ 5; omega) (by show _ ≤ 4; omega) (ad := "[I") (by decide)
  obtain ⟨b26, g26⟩ : ∃ z, z = h22.size := ⟨_, rfl⟩
  rw [← g26] at A26 B26 st26
  refine own_go st26 ?_
  clear st26 X23 Kc24
  have ge26 := Nat.le_of_eq g26.symm
  have ne27 : a1 ≠ b26 := Nat.ne_of_lt (Nat.lt_of_lt_of_le fp0.lt ge26)
  have ne28 : b7 ≠ b26 := Nat.ne_of_lt (Nat.lt_of_lt_of_le B7.lt ge26)
  have ne29 : b16 ≠ b26 := Nat.ne_of_lt (Nat.lt_of_lt_of_le B16.lt ge26)
  have big30 : Z.heap.size ≤ b26 := Nat.le_trans O0.1 ge26
  have sz31 : h0.size ≤ b26 := Nat.le_trans K0.1 ge26
  replace fp0 := fp0.ext E26
  replace fp1 := fp1.ext E26
  replace fp2 := fp2.ext E26
  replace fp3 := fp3.ext E26
  replace fp4 := fp4.ext E26
  replace fp5 := fp5.ext E26
  replace fp6 := fp6.ext E26
  replace fp7 := fp7.ext E26
  replace fp8 := fp8.ext E26
  replace B7 := B7.ext E26
  replace f11 := f11.ext E26
  replace B16 := B16.ext E26
  replace f21 := f21.ext E26
  replace O0 := own_oldExt O0 E26
  replace K0 := K0.ext E26
  clear E26
  have f32 : Arv Z h26 b26 k26 .int (0 : Int32) [] (.int (0 : Int32)) := (Arv.new A26 (by decide)).pad (pad_rep [] (.int (0 : Int32)) 0)
  obtain ⟨T33, h33, X33, e33, W33, st33⟩ := putF X26 hx hZ hown (host := "") (Or.inl (ow52 hw)) Via.refl e26 fp4 fp0 (Or.inr ⟨(ow53 hw), rfl, hnm⟩) (ow28 hw) (ty := (.array .int)) own_fd4 rfl rfl (g := (mkF m 42 #[rv a1, iv p2, rv a3, iv p4, iv p5, iv p6, .unset, .unset, .unset, .unset] [(.ref b26), (.ref a1)])) rfl rfl (hb hby d5_42)
  refine own_go st33 ?_
  clear st33 X26 e26
  replace N0 := Fr.snoc X33 N0 big_a1
  replace fp0 := fp0.wr W33
  replace fp1 := fp1.other W33 (.inr (own_sn47 hw).symm)
  replace fp2 := fp2.other W33 (.inr (own_sn53 hw).symm)
  replace fp3 := fp3.other W33 (.inr (own_sn58 hw).symm)
  replace fp4 := fp4.same W33
  replace fp5 := fp5.other W33 (.inr (own_sn63 hw))
  replace fp6 := fp6.other W33 (.inr (own_sn64 hw))
  replace fp7 := fp7.other W33 (.inr (own_sn65 hw))
  replace fp8 := fp8.other W33 (.inr (own_sn66 hw))
  replace B7 := B7.wr W33
  replace f11 := f11.other W33 ne8.symm
  replace B16 := B16.wr W33
  replace f21 := f21.other W33 ne17.symm
  replace B26 := B26.wr W33
  replace f32 := f32.other W33 ne27.symm
  replace O0 := own_oldWr O0 W33 big_a1
  replace K0 := K0.wr W33 (Or.inl (List.mem_of_getElem? (i := 0) rfl))
  clear W33
  refine own_go (fun _ k => XS.aloadN X33.here hx rfl (hb hby d5_45) rfl rfl k) ?_
  show own_Go p e below s _ _ _ (T33.setTop (mkF m 46 #[rv a1, iv p2, rv a3, iv p4, iv p5, iv p6, .unset, .unset, .unset, .unset] [(.ref a1)]))
  refine own_go (fun _ k => XS.aloadN X33.here hx rfl (hb hby d5_46) rfl rfl k) ?_
  obtain ⟨v34, T34, L34, X34, hQ34, st34⟩ := own_callF (xi := (⟨"java/util/List", "size", "()I"⟩ : MethodName)) (y := (⟨"java/util/ArrayList", "size", "()I"⟩ : MethodName)) X33 hx hZ hown (ow36 hw) (ow37 hw) (ow38 hw) (ow39 hw) (ow40 hw) (ow41 hw) (ow42 hw) (ow43 hw) (ow3 hw) (ow44 hw) (by decide) (rm_alsize l Z a0 hw oDE oDV [] a3 (0 : Int32) h33 O0 (fp10.keep K0 (ninS ne1 nin0))) 1 0 0 (by show _ ≤ 5; omega) (by show _ ≤ 4; omega) e33 (fp9.keep K0) (g := (mkF m 47 #[rv a1, iv p2, rv a3, iv p4, iv p5, iv p6, .unset, .unset, .unset, .unset] [(.ref a3), (.ref a1)])) rfl (by rw [hml]; rfl) [] [(.ref a1)] (lenOf own_pd_9 rfl) rfl rfl (hb hby d5_47)
  obtain ⟨rfl, Nc36, Kc35⟩ := hQ34
  refine own_go st34 ?_
  clear st34 X33 e33
  replace N0 := Fr.app N0 Nc36
  clear Nc36
  obtain ⟨T37, h37, k37, X37, e37, E37, A37, B37, O37, st37⟩ := newRA X34 hx hZ hown (ty := .int) (by decide) (ow54 hw) (ow55 hw) Kc35 (g := (mkF m 52 #[rv a1, iv p2, rv a3, iv p4, iv p5, iv p6, .unset, .unset, .unset, .unset] [(.int (0 : Int32)), (.ref a1)])) rfl (hb hby d5_52) rfl (by decide) (cap := 0) (by decide) (by decide) (by show _ ≤ 5; omega) (by show _ ≤ 4; omega) (ad := "[[I") (by decide)
  obtain ⟨b37, g37⟩ : ∃ z, z = h33.size := ⟨_, rfl⟩
  rw [← g37] at A37 B37 st37
  refine own_go st37 ?_
  clear st37 X34 Kc35
  have ge37 := Nat.le_of_eq g37.symm
  have ne38 : a1 ≠ b37 := Nat.ne_of_lt (Nat.lt_of_lt_of_le fp0.lt ge37)
  have ne39 : b7 ≠ b37 := Nat.ne_of_lt (Nat.lt_of_lt_of_le B7.lt ge37)
  have ne40 : b16 ≠ b37 := Nat.ne_of_lt (Nat.lt_of_lt_of_le B16.lt ge37)
  have ne41 : b26 ≠ b37 := Nat.ne_of_lt (Nat.lt_of_lt_of_le B26.lt ge37)
  have big42 : Z.heap.size ≤ b37 := Nat.le_trans O0.1 ge37
  have sz43 : h0.size ≤ b37 := Nat.le_trans K0.1 ge37
  replace fp0 := fp0.ext E37
  replace fp1 := fp1.ext E37
  replace fp2 := fp2.ext E37
  replace fp3 := fp3.ext E37
  replace fp4 := fp4.ext E37
  replace fp5 := fp5.ext E37
  replace fp6 := fp6.ext E37
  replace fp7 := fp7.ext E37
  replace fp8 := fp8.ext E37
  replace B7 := B7.ext E37
  replace f11 := f11.ext E37
  replace B16 := B16.ext E37
  replace f21 := f21.ext E37
  replace B26 := B26.ext E37
  replace f32 := f32.ext E37
  replace O0 := own_oldExt O0 E37
  replace K0 := K0.ext E37
  clear E37
  have f44 : Arv Z h37 b37 k37 (.array .int) (0 : Int32) [] .null := (Arv.new A37 (by decide)).pad (pad_rep [] .null 0)
  obtain ⟨T45, h45, X45, e45, W45, st45⟩ := putF X37 hx hZ hown (host := "") (Or.inl (ow56 hw)) Via.refl e37 fp5 fp0 (Or.inr ⟨(ow57 hw), rfl, hnm⟩) (ow28 hw) (ty := (.array (.array .int))) own_fd6 rfl rfl (g := (mkF m 55 #[rv a1, iv p2, rv a3, iv p4, iv p5, iv p6, .unset, .unset, .unset, .unset] [(.ref b37), (.ref a1)])) rfl rfl (hb hby d5_55)
  refine own_go st45 ?_
  clear st45 X37 e37
  replace N0 := Fr.snoc X45 N0 big_a1
  replace fp0 := fp0.wr W45
  replace fp1 := fp1.other W45 (.inr (own_sn48 hw).symm)
  replace fp2 := fp2.other W45 (.inr (own_sn54 hw).symm)
  replace fp3 := fp3.other W45 (.inr (own_sn59 hw).symm)
  replace fp4 := fp4.other W45 (.inr (own_sn63 hw).symm)
  replace fp5 := fp5.same W45
  replace fp6 := fp6.other W45 (.inr (own_sn67 hw))
  replace fp7 := fp7.other W45 (.inr (own_sn68 hw))
  replace fp8 := fp8.other W45 (.inr (own_sn69 hw))
  replace B7 := B7.wr W45
  replace f11 := f11.other W45 ne8.symm
  replace B16 := B16.wr W45
  replace f21 := f21.other W45 ne17.symm
  replace B26 := B26.wr W45
  replace f32 := f32.other W45 ne27.symm
  replace B37 := B37.wr W45
  replace f44 := f44.other W45 ne38.symm
  replace O0 := own_oldWr O0 W45 big_a1
  replace K0 := K0.wr W45 (Or.inl (List.mem_of_getElem? (i := 0) rfl))
  clear W45
  refine own_go (fun _ k => XS.aloadN X45.here hx rfl (hb hby d5_58) rfl rfl k) ?_
  obtain ⟨v46, T46, L46, X46, hQ46, st46⟩ := own_callF (xi := (⟨"java/util/List", "iterator", "()Ljava/util/Iterator;"⟩ : MethodName)) (y := (⟨"java/util/ArrayList", "iterator", "()Ljava/util/Iterator;"⟩ : MethodName)) X45 hx hZ hown (ow58 hw) (ow59 hw) (ow60 hw) (ow61 hw) (ow62 hw) (ow63 hw) (ow64 hw) (ow43 hw) (ow3 hw) (ow65 hw) (by decide) (rm_aliter l Z a0 hw oDE oDV [] a3 mc h45 O0 (fp9.keep K0) (fp12.keep K0 (ninS ne1 nin0))) 0 1 4 (by show _ ≤ 5; omega) (by show _ ≤ 4; omega) e45 (fp9.keep K0) (g := (mkF m 59 #[rv a1, iv p2, rv a3, iv p4, iv p5, iv p6, .unset, .unset, .unset, .unset] [(.ref a3)])) rfl (by rw [hml]; rfl) [] [] (lenOf own_pd_10 rfl) rfl rfl (hb hby d5_59)
  obtain ⟨w47, rfl, Nc55, Kc54, hb48, f49, f50, f51, f52, f53⟩ := hQ46
  refine own_go st46 ?_
  clear st46 X45 e45
  replace N0 := Fr.app N0 Nc55
  clear Nc55
  have ne56 : a1 ≠ w47 := Nat.ne_of_lt (Nat.lt_of_lt_of_le fp0.lt hb48)
  have ne57 : b7 ≠ w47 := Nat.ne_of_lt (Nat.lt_of_lt_of_le B7.lt hb48)
  have ne58 : b16 ≠ w47 := Nat.ne_of_lt (Nat.lt_of_lt_of_le B16.lt hb48)
  have ne59 : b26 ≠ w47 := Nat.ne_of_lt (Nat.lt_of_lt_of_le B26.lt hb48)
  have ne60 : b37 ≠ w47 := Nat.ne_of_lt (Nat.lt_of_lt_of_le B37.lt hb48)
  have big61 : Z.heap.size ≤ w47 := Nat.le_trans O0.1 hb48
  have sz62 : h0.size ≤ w47 := Nat.le_trans K0.1 hb48
  replace fp0 := fp0.keep Kc54
  replace fp1 := fp1.keep Kc54 nin0
  replace fp2 := fp2.keep Kc54 nin0
  replace fp3 := fp3.keep Kc54 nin0
  replace fp4 := fp4.keep Kc54 nin0
  replace fp5 := fp5.keep Kc54 nin0
  replace fp6 := fp6.keep Kc54 nin0
  replace fp7 := fp7.keep Kc54 nin0
  replace fp8 := fp8.keep Kc54 nin0
  replace B7 := B7.keep Kc54
  replace f11 := f11.keep Kc54 nin0
  replace B16 := B16.keep Kc54
  replace f21 := f21.keep Kc54 nin0
  replace B26 := B26.keep Kc54
  replace f32 := f32.keep Kc54 nin0
  replace B37 := B37.keep Kc54
  replace f44 := f44.keep Kc54 nin0
  replace O0 := own_oldKeep O0 Kc54 all0
  replace K0 := K0.trans Kc54 all0
  clear Kc54
  refine own_go (fun _ k => XS.astore X46.here hx rfl (hb hby d5_64) rfl rfl (l' := #[rv a1, iv p2, rv a3, iv p4, iv p5, iv p6, rv w47, .unset, .unset, .unset]) rfl k) ?_
  show own_Go p e below s _ _ _ (T46.setTop (mkF m 66 #[rv a1, iv p2, rv a3, iv p4, iv p5, iv p6, rv w47, .unset, .unset, .unset] []))
  refine own_go (fun _ k => XS.aload X46.here hx rfl (hb hby d5_66) rfl rfl k) ?_
  obtain ⟨v63, T63, L63, X63, hQ63, st63⟩ := own_callF (xi := (⟨"java/util/Iterator", "hasNext", "()Z"⟩ : MethodName)) (y := (⟨"java/util/ArrayList$Itr", "hasNext", "()Z"⟩ : MethodName)) X46 hx hZ hown (ow82 hw) (ow83 hw) (ow84 hw) (ow85 hw) (ow86 hw) (ow87 hw) (ow88 hw) (ow89 hw) (ow68 hw) (ow90 hw) (by decide) (rm_hn_0_0 l Z a0 hw oDE oDV [] w47 a3 T46.heap O0 f50 f51 (fp10.keep K0 (ninS ne1 nin0))) 0 0 0 (by show _ ≤ 5; omega) (by show _ ≤ 4; omega) (rfl : T46.heap = T46.heap) f49 (g := (mkF m 68 #[rv a1, iv p2, rv a3, iv p4, iv p5, iv p6, rv w47, .unset, .unset, .unset] [(.ref w47)])) rfl (by rw [hml]; rfl) [] [] (lenOf own_pd_11 rfl) rfl rfl (hb hby d5_68)
  obtain ⟨rfl, Nc65, Kc64⟩ := hQ63
  refine own_go st63 ?_
  clear st63 X46
  replace N0 := Fr.app N0 Nc65
  clear Nc65
  refine own_go (fun _ k => XS.ifYes X63.here hx rfl (pc0 := 73) (pc' := 186) rfl (hb hby d5_73) rfl ((if0 _ _).trans (teq (by decide : (0 : Int32) = (0 : Int32))).1) (by decide) (by decide) k) ?_
  refine own_go (fun _ k => XS.aloadN X63.here hx rfl (hb hby d5_186) rfl rfl k) ?_
  refine own_go (fun _ k => XS.iload X63.here hx rfl (hb hby d5_187) rfl k) ?_
  obtain ⟨T66, h66, X66, e66, W66, st66⟩ := putF X63 hx hZ hown (host := "") (Or.inl (ow94 hw)) Via.refl Kc64 fp6 fp0 (Or.inr ⟨(ow95 hw), rfl, hnm⟩) (ow28 hw) (ty := .int) own_fd0 rfl rfl (g := (mkF m 189 #[rv a1, iv p2, rv a3, iv p4, iv p5, iv p6, rv w47, .unset, .unset, .unset] [(.int p6), (.ref a1)])) rfl rfl (hb hby d5_189)
  refine own_go st66 ?_
  clear st66 X63 Kc64
  replace N0 := Fr.snoc X66 N0 big_a1
  replace fp0 := fp0.wr W66
  replace fp1 := fp1.other W66 (.inr (own_sn49 hw).symm)
  replace fp2 := fp2.other W66 (.inr (own_sn55 hw).symm)
  replace fp3 := fp3.other W66 (.inr (own_sn60 hw).symm)
  replace fp4 := fp4.other W66 (.inr (own_sn64 hw).symm)
  replace fp5 := fp5.other W66 (.inr (own_sn67 hw).symm)
  replace fp6 := fp6.same W66
  replace fp7 := fp7.other W66 (.inr (own_sn70 hw))
  replace fp8 := fp8.other W66 (.inr (own_sn71 hw))
  replace B7 := B7.wr W66
  replace f11 := f11.other W66 ne8.symm
  replace B16 := B16.wr W66
  replace f21 := f21.other W66 ne17.symm
  replace B26 := B26.wr W66
  replace f32 := f32.other W66 ne27.symm
  replace B37 := B37.wr W66
  replace f44 := f44.other W66 ne38.symm
  replace f49 := f49.wr W66
  replace f50 := f50.other W66 (Or.inl ne56.symm)
  replace f51 := f51.other W66 (Or.inl ne56.symm)
  replace f52 := f52.other W66 (Or.inl ne56.symm)
  replace f53 := f53.other W66 (Or.inl ne56.symm)
  replace O0 := own_oldWr O0 W66 big_a1
  replace K0 := K0.wr W66 (Or.inl (List.mem_of_getElem? (i := 0) rfl))
  clear W66
  refine own_go (fun _ k => XS.aloadN X66.here hx rfl (hb hby d5_192) rfl rfl k) ?_
  show own_Go p e below s _ _ _ (T66.setTop (mkF m 193 #[rv a1, iv p2, rv a3, iv p4, iv p5, iv p6, rv w47, .unset, .unset, .unset] [(.ref a1)]))
  refine own_go (fun _ k => XS.iloadN X66.here hx rfl (hb hby d5_193) rfl k) ?_
  obtain ⟨T67, h67, X67, e67, W67, st67⟩ := putF X66 hx hZ hown (host := "") (Or.inl (ow96 hw)) Via.refl e66 fp7 fp0 (Or.inr ⟨(ow97 hw), rfl, hnm⟩) (ow28 hw) (ty := .int) own_fd0 rfl rfl (g := (mkF m 194 #[rv a1, iv p2, rv a3, iv p4, iv p5, iv p6, rv w47, .unset, .unset, .unset] [(.int p4), (.ref a1)])) rfl rfl (hb hby d5_194)
  refine own_go st67 ?_
  clear st67 X66 e66
  replace N0 := Fr.snoc X67 N0 big_a1
  replace fp0 := fp0.wr W67
  replace fp1 := fp1.other W67 (.inr (own_sn50 hw).symm)
  replace fp2 := fp2.other W67 (.inr (own_sn56 hw).symm)
  replace fp3 := fp3.other W67 (.inr (own_sn61 hw).symm)
  replace fp4 := fp4.other W67 (.inr (own_sn65 hw).symm)
  replace fp5 := fp5.other W67 (.inr (own_sn68 hw).symm)
  replace fp6 := fp6.other W67 (.inr (own_sn70 hw).symm)
  replace fp7 := fp7.same W67
  replace fp8 := fp8.other W67 (.inr (own_sn72 hw))
  replace B7 := B7.wr W67
  replace f11 := f11.other W67 ne8.symm
  replace B16 := B16.wr W67
  replace f21 := f21.other W67 ne17.symm
  replace B26 := B26.wr W67
  replace f32 := f32.other W67 ne27.symm
  replace B37 := B37.wr W67
  replace f44 := f44.other W67 ne38.symm
  replace f49 := f49.wr W67
  replace f50 := f50.other W67 (Or.inl ne56.symm)
  replace f51 := f51.other W67 (Or.inl ne56.symm)
  replace f52 := f52.other W67 (Or.inl ne56.symm)
  replace f53 := f53.other W67 (Or.inl ne56.symm)
  replace O0 := own_oldWr O0 W67 big_a1
  replace K0 := K0.wr W67 (Or.inl (List.mem_of_getElem? (i := 0) rfl))
  clear W67
  refine own_go (fun _ k => XS.aloadN X67.here hx rfl (hb hby d5_197) rfl rfl k) ?_
  refine own_go (fun _ k => XS.iload X67.here hx rfl (hb hby d5_198) rfl k) ?_
  obtain ⟨T68, h68, X68, e68, W68, st68⟩ := putF X67 hx hZ hown (host := "") (Or.inl (ow98 hw)) Via.refl e67 fp8 fp0 (Or.inr ⟨(ow99 hw), rfl, hnm⟩) (ow28 hw) (ty := .int) own_fd0 rfl rfl (g := (mkF m 200 #[rv a1, iv p2, rv a3, iv p4, iv p5, iv p6, rv w47, .unset, .unset, .unset] [(.int p5), (.ref a1)])) rfl rfl (hb hby d5_200)
  refine own_go st68 ?_
  clear st68 X67 e67
  replace N0 := Fr.snoc X68 N0 big_a1
  replace fp0 := fp0.wr W68
  replace fp1 := fp1.other W68 (.inr (own_sn51 hw).symm)
  replace fp2 := fp2.other W68 (.inr (own_sn57 hw).symm)
  replace fp3 := fp3.other W68 (.inr (own_sn62 hw).symm)
  replace fp4 := fp4.other W68 (.inr (own_sn66 hw).symm)
  replace fp5 := fp5.other W68 (.inr (own_sn69 hw).symm)
  replace fp6 := fp6.other W68 (.inr (own_sn71 hw).symm)
  replace fp7 := fp7.other W68 (.inr (own_sn72 hw).symm)
  replace fp8 := fp8.same W68
  replace B7 := B7.wr W68
  replace f11 := f11.other W68 ne8.symm
  replace B16 := B16.wr W68
  replace f21 := f21.other W68 ne17.symm
  replace B26 := B26.wr W68
  replace f32 := f32.other W68 ne27.symm
  replace B37 := B37.wr W68
  replace f44 := f44.other W68 ne38.symm
  replace f49 := f49.wr W68
  replace f50 := f50.other W68 (Or.inl ne56.symm)
  replace f51 := f51.other W68 (Or.inl ne56.symm)
  replace f52 := f52.other W68 (Or.inl ne56.symm)
  replace f53 := f53.other W68 (Or.inl ne56.symm)
  replace O0 := own_oldWr O0 W68 big_a1
  replace K0 := K0.wr W68 (Or.inl (List.mem_of_getElem? (i := 0) rfl))
  clear W68
  show own_Go p e below s _ _ _ (T68.setTop (mkF m 203 #[rv a1, iv p2, rv a3, iv p4, iv p5, iv p6, rv w47, .unset, .unset, .unset] []))
  refine own_retV X68 hx hlk e68 hret (hb hby d5_203) (by show _ ≤ 5; omega) (by show _ ≤ 4; omega) ?_
  exact ⟨b16, k16, rfl, N0, K0, fp0, fp3, fp7, fp8, f21⟩
theorem d5_76 : decode prog_30_method_1_code 76 = .ok (.aload 6, 2) := by decide +kernel
theorem d5_78 : decode prog_30_method_1_code 78 = .ok (.invokeinterface 44 1, 5) := by decide +kernel
theorem d5_83 : decode prog_30_method_1_code 83 = .ok (.checkcast 48, 3) := by decide +kernel
theorem d5_86 : decode prog_30_method_1_code 86 = .ok (.astore 7, 2) := by decide +kernel
theorem d5_88 : decode prog_30_method_1_code 88 = .ok (.aload_n 0, 1) := by decide +kernel
theorem d5_89 : decode prog_30_method_1_code 89 = .ok (.getfield 19, 3) := by decide +kernel
theorem d5_92 : decode prog_30_method_1_code 92 = .ok (.aload 7, 2) := by decide +kernel
theorem d5_94 : decode prog_30_method_1_code 94 = .ok (.invokevirtual 50, 3) := by decide +kernel
theorem d5_97 : decode prog_30_method_1_code 97 = .ok (.aload 7, 2) := by decide +kernel
theorem d5_99 : decode prog_30_method_1_code 99 = .ok (.invokevirtual 53, 3) := by decide +kernel
theorem d5_102 : decode prog_30_method_1_code 102 = .ok (.iastore, 1) := by decide +kernel
theorem d5_103 : decode prog_30_method_1_code 103 = .ok (.aload_n 0, 1) := by decide +kernel
theorem d5_104 : decode prog_30_method_1_code 104 = .ok (.getfield 23, 3) := by decide +kernel
theorem d5_107 : decode prog_30_method_1_code 107 = .ok (.aload 7, 2) := by decide +kernel
theorem d5_109 : decode prog_30_method_1_code 109 = .ok (.invokevirtual 50, 3) := by decide +kernel
theorem d5_112 : decode prog_30_method_1_code 112 = .ok (.aload 7, 2) := by decide +kernel
theorem d5_114 : decode prog_30_method_1_code 114 = .ok (.invokevirtual 56, 3) := by decide +kernel
theorem d5_117 : decode prog_30_method_1_code 117 = .ok (.iastore, 1) := by decide +kernel
theorem d5_118 : decode prog_30_method_1_code 118 = .ok (.aload_n 0, 1) := by decide +kernel
theorem d5_119 : decode prog_30_method_1_code 119 = .ok (.getfield 26, 3) := by decide +kernel
theorem d5_122 : decode prog_30_method_1_code 122 = .ok (.aload 7, 2) := by decide +kernel
theorem d5_124 : decode prog_30_method_1_code 124 = .ok (.invokevirtual 50, 3) := by decide +kernel
theorem d5_127 : decode prog_30_method_1_code 127 = .ok (.aload 7, 2) := by decide +kernel
theorem d5_129 : decode prog_30_method_1_code 129 = .ok (.invokevirtual 59, 3) := by decide +kernel
theorem d5_132 : decode prog_30_method_1_code 132 = .ok (.iastore, 1) := by decide +kernel
theorem d5_133 : decode prog_30_method_1_code 133 = .ok (.aload 7, 2) := by decide +kernel
theorem d5_135 : decode prog_30_method_1_code 135 = .ok (.invokevirtual 62, 3) := by decide +kernel
theorem d5_138 : decode prog_30_method_1_code 138 = .ok (.newarray .int, 2) := by decide +kernel
theorem d5_140 : decode prog_30_method_1_code 140 = .ok (.astore 8, 2) := by decide +kernel
theorem d5_142 : decode prog_30_method_1_code 142 = .ok (.iconst 0, 1) := by decide +kernel
theorem d5_143 : decode prog_30_method_1_code 143 = .ok (.istore 9, 2) := by decide +kernel
theorem d5_145 : decode prog_30_method_1_code 145 = .ok (.iload 9, 2) := by decide +kernel
theorem d5_147 : decode prog_30_method_1_code 147 = .ok (.aload 8, 2) := by decide +kernel
theorem d5_149 : decode prog_30_method_1_code 149 = .ok (.arraylength, 1) := by decide +kernel
theorem d5_150 : decode prog_30_method_1_code 150 = .ok (.if_icmp .ge 21, 3) := by decide +kernel
theorem d5_171 : decode prog_30_method_1_code 171 = .ok (.aload_n 0, 1) := by decide +kernel
theorem d5_172 : decode prog_30_method_1_code 172 = .ok (.getfield 30, 3) := by decide +kernel
theorem d5_175 : decode prog_30_method_1_code 175 = .ok (.aload 7, 2) := by decide +kernel
theorem d5_177 : decode prog_30_method_1_code 177 = .ok (.invokevirtual 50, 3) := by decide +kernel
theorem d5_180 : decode prog_30_method_1_code 180 = .ok (.aload 8, 2) := by decide +kernel
theorem d5_182 : decode prog_30_method_1_code 182 = .ok (.aastore, 1) := by decide +kernel
theorem d5_183 : decode prog_30_method_1_code 183 = .ok (.goto (-117), 3) := by decide +kernel
def Q_lrinit1 (Z : State) (wd : Addr) (kd : ClassId) (a1 : Addr) (p2 : Int32) (a3 : Addr) (p4 : Int32) (p5 : Int32) (p6 : Int32) (mc : Int32) (b : Addr) (k : ClassId) (el1 : Addr) (x0 : Int32) (d0 : Int32) (pa0 : Addr) (kp0 : ClassId) (h0 : Heap) (v : Option Value) (h : Heap) (L : List Loc) : Prop := (∃ xs : Addr, ∃ kx : ClassId, v = none ∧ Fr Z.heap.size L ∧ Keep h0 h [a1] ∧ Exa Z h a1 "com/example/nudo/nudo/LoadingResult" ∧ Fld Z h a1 "com/example/nudo/nudo/LoadingResult" "exitSteps" "[I" (.ref xs) ∧ Fld Z h a1 "com/example/nudo/nudo/LoadingResult" "vehiclesWaiting" "I" (.int p4) ∧ Fld Z h a1 "com/example/nudo/nudo/LoadingResult" "vehiclesInNetwork" "I" (.int p5) ∧ Arv Z h xs kx .int (1 : Int32) [(.int x0)] (.int (0 : Int32)))
theorem ef_lrinit1 (m : MethodId) (x0 : Addr) (x1 : Int32) (x2 : Addr) (x3 : Int32) (x4 : Int32) (x5 : Int32) : entryFrame m #[(.ref x0), (.int x1), (.ref x2), (.int x3), (.int x4), (.int x5)] 10 = mkF m 0 #[rv x0, iv x1, rv x2, iv x3, iv x4, iv x5, .unset, .unset, .unset, .unset] [] := by first | (simp [entryFrame, mkF, argsToLocals, Value.category]; done) | rfl
set_option maxRecDepth 65536 in
set_option maxHeartbeats 40000000 in
theorem rm_lrinit1 (l : Launch) (Z : State) (a0 : Array Value) (hw : ∀ d ∈ tables_1, d.before a0 Z = true) {wd : Addr} {kd : ClassId} (oDE : Sta Z Z.heap "java/util/ArrayList" "DEFAULTCAPACITY_EMPTY_ELEMENTDATA" "[Ljava/lang/Object;" (.ref wd)) (oDV : Arv Z Z.heap wd kd (.object "java/lang/Object") (0 : Int32) [] .null) (ws : List Jvm.Cond) (a1 : Addr) (p2 : Int32) (a3 : Addr) (p4 : Int32) (p5 : Int32) (p6 : Int32) (mc : Int32) (b : Addr) (k : ClassId) (el1 : Addr) (x0 : Int32) (d0 : Int32) (pa0 : Addr) (kp0 : ClassId) (h0 : Heap) (O0 : Ext Z.heap h0) (fp0 : Exa Z h0 a1 "com/example/nudo/nudo/LoadingResult") (fp1 : Fld Z h0 a1 "com/example/nudo/nudo/LoadingResult" "timeStep" "I" (.int (0 : Int32))) (fp2 : Fld Z h0 a1 "com/example/nudo/nudo/LoadingResult" "departureSteps" "[I" .null) (fp3 : Fld Z h0 a1 "com/example/nudo/nudo/LoadingResult" "exitSteps" "[I" .null) (fp4 : Fld Z h0 a1 "com/example/nudo/nudo/LoadingResult" "freeFlowSteps" "[I" .null) (fp5 : Fld Z h0 a1 "com/example/nudo/nudo/LoadingResult" "linkEntrySteps" "[[I" .null) (fp6 : Fld Z h0 a1 "com/example/nudo/nudo/LoadingResult" "endStep" "I" (.int (0 : Int32))) (fp7 : Fld Z h0 a1 "com/example/nudo/nudo/LoadingResult" "vehiclesWaiting" "I" (.int (0 : Int32))) (fp8 : Fld Z h0 a1 "com/example/nudo/nudo/LoadingResult" "vehiclesInNetwork" "I" (.int (0 : Int32))) (fp9 : Exa Z h0 a3 "java/util/ArrayList") (fp10 : Fld Z h0 a3 "java/util/ArrayList" "size" "I" (.int (1 : Int32))) (fp11 : Fld Z h0 a3 "java/util/ArrayList" "elementData" "[Ljava/lang/Object;" (.ref b)) (fp12 : Fld Z h0 a3 "java/util/AbstractList" "modCount" "I" (.int mc)) (fp13 : Arv Z h0 b k (.object "java/lang/Object") (10 : Int32) [(.ref el1), .null, .null, .null, .null, .null, .null, .null, .null, .null] .null) (fp14 : Exa Z h0 el1 "com/example/nudo/nudo/Vehicle") (fp15 : Fld Z h0 el1 "com/example/nudo/nudo/Vehicle" "position" "I" (.int (-1 : Int32))) (fp16 : Fld Z h0 el1 "com/example/nudo/nudo/Vehicle" "exitStep" "I" (.int x0)) (fp17 : Fld Z h0 el1 "com/example/nudo/nudo/Vehicle" "trip" "I" (.int (0 : Int32))) (fp18 : Fld Z h0 el1 "com/example/nudo/nudo/Vehicle" "path" "[Lcom/example/nudo/nudo/CellLink;" (.ref pa0)) (fp19 : Fld Z h0 el1 "com/example/nudo/nudo/Vehicle" "departureStep" "I" (.int d0)) (fp20 : Arv Z h0 pa0 kp0 (.object "com/example/nudo/nudo/CellLink") (0 : Int32) [] .null) (big_a1 : Z.heap.size ≤ a1) :
    own_MF l Z h0 (⟨"com/example/nudo/nudo/LoadingResult", "<init>", "(ILjava/util/List;III)V"⟩ : MethodName) prog_30_method_1_code 10 none ({ frames := 3, cells := 6, slots := 8, locals := 38 } : Room) #[(.ref a1), (.int p2), (.ref a3), (.int p4), (.int p5), (.int p6)] (Q_lrinit1 Z wd kd a1 p2 a3 p4 p5 p6 mc b k el1 x0 d0 pa0 kp0 h0) ws := by
  refine own_met (Q := (Q_lrinit1 Z wd kd a1 p2 a3 p4 p5 p6 mc b k el1 x0 d0 pa0 kp0 h0)) _ _ (plainFor_of_name own_pn_7) ?_
  intro p e s m below meth c T X0 hx hby hml hret hlk hZ hown hnm e0
  replace hown : s.vm.findClass "com/example/nudo/nudo/LoadingResult" = some m.cls := hown
  replace hnm : meth.name = "<init>" := hnm
  have hml : c.maxLocals = 10 := hml
  have N0 := Fr.nil Z.heap.size
  have K0 := Keep.refl h0 [a1]
  refine own_go (fun _ k => castTop (ef_lrinit1 m a1 p2 a3 p4 p5 p6) k) ?_
  have ne1 : a3 ≠ a1 := (ne_exa fp9 fp0 (by decide))
  have ne2 : b ≠ a1 := (Ne.symm (Exa.neArv fp0 fp13 (ow28 hw)))
  have ne3 : el1 ≠ a1 := (ne_exa fp14 fp0 (by decide))
  have ne4 : pa0 ≠ a1 := (Ne.symm (Exa.neArv fp0 fp20 (ow28 hw)))
  show own_Go p e below s _ _ _ (T.setTop (mkF m 0 #[rv a1, iv p2, rv a3, iv p4, iv p5, iv p6, .unset, .unset, .unset, .unset] []))
  refine own_go (fun _ k => XS.aloadN X0.here hx rfl (hb hby d5_0) rfl rfl k) ?_
  obtain ⟨T5, X5, e5, st5⟩ := initO X0 hx hZ hown (ow33 hw) (ow20 hw) (ow21 hw) e0 (g := (mkF m 1 #[rv a1, iv p2, rv a3, iv p4, iv p5, iv p6, .unset, .unset, .unset, .unset] [(.ref a1)])) rfl (by rw [hml]; rfl) rfl (hb hby d5_1) (by decide) (W := 0) (by show 2 * 0 + _ ≤ _; exact Nat.le_of_eq rfl) (by decide)
  refine own_go st5 ?_
  clear st5 X0 e0
  refine own_go (fun _ k => XS.aloadN X5.here hx rfl (hb hby d5_4) rfl rfl k) ?_
  refine own_go (fun _ k => XS.iloadN X5.here hx rfl (hb hby d5_5) rfl k) ?_
  obtain ⟨T6, h6, X6, e6, W6, st6⟩ := putF X5 hx hZ hown (host := "") (Or.inl (ow34 hw)) Via.refl e5 fp1 fp0 (Or.inr ⟨(ow35 hw), rfl, hnm⟩) (ow28 hw) (ty := .int) own_fd0 rfl rfl (g := (mkF m 6 #[rv a1, iv p2, rv a3, iv p4, iv p5, iv p6, .unset, .unset, .unset, .unset] [(.int p2), (.ref a1)])) rfl rfl (hb hby d5_6)
  refine own_go st6 ?_
  clear st6 X5 e5
  replace N0 := Fr.snoc X6 N0 big_a1
  replace fp0 := fp0.wr W6
  replace fp1 := fp1.same W6
  replace fp2 := fp2.other W6 (.inr (own_sn45 hw))
  replace fp3 := fp3.other W6 (.inr (own_sn46 hw))
  replace fp4 := fp4.other W6 (.inr (own_sn47 hw))
  replace fp5 := fp5.other W6 (.inr (own_sn48 hw))
  replace fp6 := fp6.other W6 (.inr (own_sn49 hw))
  replace fp7 := fp7.other W6 (.inr (own_sn50 hw))
  replace fp8 := fp8.other W6 (.inr (own_sn51 hw))
  replace O0 := own_oldWr O0 W6 big_a1
  replace K0 := K0.wr W6 (Or.inl (List.mem_of_getElem? (i := 0) rfl))
  clear W6
  refine own_go (fun _ k => XS.aloadN X6.here hx rfl (hb hby d5_9) rfl rfl k) ?_
  refine own_go (fun _ k => XS.aloadN X6.here hx rfl (hb hby d5_10) rfl rfl k) ?_
  show own_Go p e below s _ _ _ (T6.setTop (mkF m 11 #[rv a1, iv p2, rv a3, iv p4, iv p5, iv p6, .unset, .unset, .unset, .unset] [(.ref a3), (.ref a1)]))
  obtain ⟨v7, T7, L7, X7, hQ7, st7⟩ := own_callF (xi := (⟨"java/util/List", "size", "()I"⟩ : MethodName)) (y := (⟨"java/util/ArrayList", "size", "()I"⟩ : MethodName)) X6 hx hZ hown (ow36 hw) (ow37 hw) (ow38 hw) (ow39 hw) (ow40 hw) (ow41 hw) (ow42 hw) (ow43 hw) (ow3 hw) (ow44 hw) (by decide) (rm_alsize l Z a0 hw oDE oDV [] a3 (1 : Int32) h6 O0 (fp10.keep K0 (ninS ne1 nin0))) 1 0 0 (by show _ ≤ 6; omega) (by show _ ≤ 8; omega) e6 (fp9.keep K0) (g := (mkF m 11 #[rv a1, iv p2, rv a3, iv p4, iv p5, iv p6, .unset, .unset, .unset, .unset] [(.ref a3), (.ref a1)])) rfl (by rw [hml]; rfl) [] [(.ref a1)] (lenOf own_pd_9 rfl) rfl rfl (hb hby d5_11)
  obtain ⟨rfl, Nc9, Kc8⟩ := hQ7
  refine own_go st7 ?_
  clear st7 X6 e6
  replace N0 := Fr.app N0 Nc9
  clear Nc9
  obtain ⟨T10, h10, k10, X10, e10, E10, A10, B10, st10⟩ := newPE (aty := .int) X7 hx hZ (ow47 hw) Kc8 (g := (mkF m 16 #[rv a1, iv p2, rv a3, iv p4, iv p5, iv p6, .unset, .unset, .unset, .unset] [(.int (1 : Int32)), (.ref a1)])) rfl (hb hby d5_16) rfl (by decide) (cap := 1) (by decide) (by decide) (by show _ ≤ 6; omega) (by show _ ≤ 8; omega) (ad := "[I") (by decide)
  obtain ⟨b10, g10⟩ : ∃ z, z = h6.size := ⟨_, rfl⟩
  rw [← g10] at A10 B10 st10
  refine own_go st10 ?_
  clear st10 X7 Kc8
  have ge10 := Nat.le_of_eq g10.symm
  have ne11 : a1 ≠ b10 := Nat.ne_of_lt (Nat.lt_of_lt_of_le fp0.lt ge10)
  have big12 : Z.heap.size ≤ b10 := Nat.le_trans O0.1 ge10
  have sz13 : h0.size ≤ b10 := Nat.le_trans K0.1 ge10
  replace fp0 := fp0.ext E10
  replace fp1 := fp1.ext E10
  replace fp2 := fp2.ext E10
  replace fp3 := fp3.ext E10
  replace fp4 := fp4.ext E10
  replace fp5 := fp5.ext E10
  replace fp6 := fp6.ext E10
  replace fp7 := fp7.ext E10
  replace fp8 := fp8.ext E10
  replace O0 := own_oldExt O0 E10
  replace K0 := K0.ext E10
  clear E10
  have f14 : Arv Z h10 b10 k10 .int (1 : Int32) [(.int (0 : Int32))] (.int (0 : Int32)) := (Arv.new A10 (by decide)).pad (pad_rep [] (.int (0 : Int32)) 1)
  obtain ⟨T15, h15, X15, e15, W15, st15⟩ := putF X10 hx hZ hown (host := "") (Or.inl (ow48 hw)) Via.refl e10 fp2 fp0 (Or.inr ⟨(ow49 hw), rfl, hnm⟩) (ow28 hw) (ty := (.array .int)) own_fd4 rfl rfl (g := (mkF m 18 #[rv a1, iv p2, rv a3, iv p4, iv p5, iv p6, .unset, .unset, .unset, .unset] [(.ref b10), (.ref a1)])) rfl rfl (hb hby d5_18)
  refine own_go st15 ?_
  clear st15 X10 e10
  replace N0 := Fr.snoc X15 N0 big_a1
  replace fp0 := fp0.wr W15
  replace fp1 := fp1.other W15 (.inr (own_sn45 hw).symm)
  replace fp2 := fp2.same W15
  replace fp3 := fp3.other W15 (.inr (own_sn52 hw))
  replace fp4 := fp4.other W15 (.inr (own_sn53 hw))
  replace fp5 := fp5.other W15 (.inr (own_sn54 hw))
  replace fp6 := fp6.other W15 (.inr (own_sn55 hw))
  replace fp7 := fp7.other W15 (.inr (own_sn56 hw))
  replace fp8 := fp8.other W15 (.inr (own_sn57 hw))
  replace B10 := B10.wr W15
  replace f14 := f14.other W15 ne11.symm
  replace O0 := own_oldWr O0 W15 big_a1
  replace K0 := K0.wr W15 (Or.inl (List.mem_of_getElem? (i := 0) rfl))
  clear W15
  refine own_go (fun _ k => XS.aloadN X15.here hx rfl (hb hby d5_21) rfl rfl k) ?_
  refine own_go (fun _ k => XS.aloadN X15.here hx rfl (hb hby d5_22) rfl rfl k) ?_
  obtain ⟨v16, T16, L16, X16, hQ16, st16⟩ := own_callF (xi := (⟨"java/util/List", "size", "()I"⟩ : MethodName)) (y := (⟨"java/util/ArrayList", "size", "()I"⟩ : MethodName)) X15 hx hZ hown (ow36 hw) (ow37 hw) (ow38 hw) (ow39 hw) (ow40 hw) (ow41 hw) (ow42 hw) (ow43 hw) (ow3 hw) (ow44 hw) (by decide) (rm_alsize l Z a0 hw oDE oDV [] a3 (1 : Int32) h15 O0 (fp10.keep K0 (ninS ne1 nin0))) 1 0 0 (by show _ ≤ 6; omega) (by show _ ≤ 8; omega) e15 (fp9.keep K0) (g := (mkF m 23 #[rv a1, iv p2, rv a3, iv p4, iv p5, iv p6, .unset, .unset, .unset, .unset] [(.ref a3), (.ref a1)])) rfl (by rw [hml]; rfl) [] [(.ref a1)] (lenOf own_pd_9 rfl) rfl rfl (hb hby d5_23)
  obtain ⟨rfl, Nc18, Kc17⟩ := hQ16
  refine own_go st16 ?_
  clear st16 X15 e15
  replace N0 := Fr.app N0 Nc18
  clear Nc18
  obtain ⟨T19, h19, k19, X19, e19, E19, A19, B19, st19⟩ := newPE (aty := .int) X16 hx hZ (ow47 hw) Kc17 (g := (mkF m 28 #[rv a1, iv p2, rv a3, iv p4, iv p5, iv p6, .unset, .unset, .unset, .unset] [(.int (1 : Int32)), (.ref a1)])) rfl (hb hby d5_28) rfl (by decide) (cap := 1) (by decide) (by decide) (by show _ ≤ 6; omega) (by show _ ≤ 8; omega) (ad := "[I") (by decide)
  obtain ⟨b19, g19⟩ : ∃ z, z = h15.size := ⟨_, rfl⟩
  rw [← g19] at A19 B19 st19
  refine own_go st19 ?_
  clear st19 X16 Kc17
  have ge19 := Nat.le_of_eq g19.symm
  have ne20 : a1 ≠ b19 := Nat.ne_of_lt (Nat.lt_of_lt_of_le fp0.lt ge19)
  have ne21 : b10 ≠ b19 := Nat.ne_of_lt (Nat.lt_of_lt_of_le B10.lt ge19)
  have big22 : Z.heap.size ≤ b19 := Nat.le_trans O0.1 ge19
  have sz23 : h0.size ≤ b19 := Nat.le_trans K0.1 ge19
  replace fp0 := fp0.ext E19
  replace fp1 := fp1.ext E19
  replace fp2 := fp2.ext E19
  replace fp3 := fp3.ext E19
  replace fp4 := fp4.ext E19
  replace fp5 := fp5.ext E19
  replace fp6 := fp6.ext E19
  replace fp7 := fp7.ext E19
  replace fp8 := fp8.ext E19
  replace B10 := B10.ext E19
  replace f14 := f14.ext E19
  replace O0 := own_oldExt O0 E19
  replace K0 := K0.ext E19
  clear E19
  have f24 : Arv Z h19 b19 k19 .int (1 : Int32) [(.int (0 : Int32))] (.int (0 : Int32)) := (Arv.new A19 (by decide)).pad (pad_rep [] (.int (0 : Int32)) 1)
  show own_Go p e below s _ _ _ (T19.setTop (mkF m 30 #[rv a1, iv p2, rv a3, iv p4, iv p5, iv p6, .unset, .unset, .unset, .unset] [(.ref b19), (.ref a1)]))
  obtain ⟨T25, h25, X25, e25, W25, st25⟩ := putF X19 hx hZ hown (host := "") (Or.inl (ow50 hw)) Via.refl e19 fp3 fp0 (Or.inr ⟨(ow51 hw), rfl, hnm⟩) (ow28 hw) (ty := (.array .int)) own_fd4 rfl rfl (g := (mkF m 30 #[rv a1, iv p2, rv a3, iv p4, iv p5, iv p6, .unset, .unset, .unset, .unset] [(.ref b19), (.ref a1)])) rfl rfl (hb hby d5_30)
  refine own_go st25 ?_
  clear st25 X19 e19
  replace N0 := Fr.snoc X25 N0 big_a1
  replace fp0 := fp0.wr W25
  replace fp1 := fp1.other W25 (.inr (own_sn46 hw).symm)
  replace fp2 := fp2.other W25 (.inr (own_sn52 hw).symm)
  replace fp3 := fp3.same W25
  replace fp4 := fp4.other W25 (.inr (own_sn58 hw))
  replace fp5 := fp5.other W25 (.inr (own_sn59 hw))
  replace fp6 := fp6.other W25 (.inr (own_sn60 hw))
  replace fp7 := fp7.other W25 (.inr (own_sn61 hw))
  replace fp8 := fp8.other W25 (.inr (own_sn62 hw))
  replace B10 := B10.wr W25
  replace f14 := f14.other W25 ne11.symm
  replace B19 := B19.wr W25
  replace f24 := f24.other W25 ne20.symm
  replace O0 := own_oldWr O0 W25 big_a1
  replace K0 := K0.wr W25 (Or.inl (List.mem_of_getElem? (i := 0) rfl))
  clear W25
  refine own_go (fun _ k => XS.aloadN X25.here hx rfl (hb hby d5_33) rfl rfl k) ?_
  refine own_go (fun _ k => XS.aloadN X25.here hx rfl (hb hby d5_34) rfl rfl k) ?_
  obtain ⟨v26, T26, L26, X26, hQ26, st26⟩ := own_callF (xi := (⟨"java/util/List", "size", "()I"⟩ : MethodName)) (y := (⟨"java/util/ArrayList", "size", "()I"⟩ : MethodName)) X25 hx hZ hown (ow36 hw) (ow37 hw) (ow38 hw) (ow39 hw) (ow40 hw) (ow41 hw) (ow42 hw) (ow43 hw) (ow3 hw) (ow44 hw) (by decide) (rm_alsize l Z a0 hw oDE oDV [] a3 (1 : Int32) h25 O0 (fp10.keep K0 (ninS ne1 nin0))) 1 0 0 (by show _ ≤ 6; omega) (by show _ ≤ 8; omega) e25 (fp9.keep K0) (g := (mkF m 35 #[rv a1, iv p2, rv a3, iv p4, iv p5, iv p6, .unset, .unset, .unset, .unset] [(.ref a3), (.ref a1)])) rfl (by rw [hml]; rfl) [] [(.ref a1)] (lenOf own_pd_9 rfl) rfl rfl (hb hby d5_35)
  obtain ⟨rfl, Nc28, Kc27⟩ := hQ26
  refine own_go st26 ?_
  clear st26 X25 e25
  replace N0 := Fr.app N0 Nc28
  clear Nc28
  obtain ⟨T29, h29, k29, X29, e29, E29, A29, B29, st29⟩ := newPE (aty := .int) X26 hx hZ (ow47 hw) Kc27 (g := (mkF m 40 #[rv a1, iv p2, rv a3, iv p4, iv p5, iv p6, .unset, .unset, .unset, .unset] [(.int (1 : Int32)), (.ref a1)])) rfl (hb hby d5_40) rfl (by decide) (cap := 1) (by decide) (by decide) (by show _ ≤ 6; omega) (by show _ ≤ 8; omega) (ad := "[I") (by decide)
  obtain ⟨b29, g29⟩ : ∃ z, z = h25.size := ⟨_, rfl⟩
  rw [← g29] at A29 B29 st29
  refine own_go st29 ?_
  clear st29 X26 Kc27
  have ge29 := Nat.le_of_eq g29.symm
  have ne30 : a1 ≠ b29 := Nat.ne_of_lt (Nat.lt_of_lt_of_le fp0.lt ge29)
  have ne31 : b10 ≠ b29 := Nat.ne_of_lt (Nat.lt_of_lt_of_le B10.lt ge29)
  have ne32 : b19 ≠ b29 := Nat.ne_of_lt (Nat.lt_of_lt_of_le B19.lt ge29)
  have big33 : Z.heap.size ≤ b29 := Nat.le_trans O0.1 ge29
  have sz34 : h0.size ≤ b29 := Nat.le_trans K0.1 ge29
  replace fp0 := fp0.ext E29
  replace fp1 := fp1.ext E29
  replace fp2 := fp2.ext E29
  replace fp3 := fp3.ext E29
  replace fp4 := fp4.ext E29
  replace fp5 := fp5.ext E29
  replace fp6 := fp6.ext E29
  replace fp7 := fp7.ext E29
  replace fp8 := fp8.ext E29
  replace B10 := B10.ext E29
  replace f14 := f14.ext E29
  replace B19 := B19.ext E29
  replace f24 := f24.ext E29
  replace O0 := own_oldExt O0 E29
  replace K0 := K0.ext E29
  clear E29
  have f35 : Arv Z h29 b29 k29 .int (1 : Int32) [(.int (0 : Int32))] (.int (0 : Int32)) := (Arv.new A29 (by decide)).pad (pad_rep [] (.int (0 : Int32)) 1)
  obtain ⟨T36, h36, X36, e36, W36, st36⟩ := putF X29 hx hZ hown (host := "") (Or.inl (ow52 hw)) Via.refl e29 fp4 fp0 (Or.inr ⟨(ow53 hw), rfl, hnm⟩) (ow28 hw) (ty := (.array .int)) own_fd4 rfl rfl (g := (mkF m 42 #[rv a1, iv p2, rv a3, iv p4, iv p5, iv p6, .unset, .unset, .unset, .unset] [(.ref b29), (.ref a1)])) rfl rfl (hb hby d5_42)
  refine own_go st36 ?_
  clear st36 X29 e29
  replace N0 := Fr.snoc X36 N0 big_a1
  replace fp0 := fp0.wr W36
  replace fp1 := fp1.other W36 (.inr (own_sn47 hw).symm)
  replace fp2 := fp2.other W36 (.inr (own_sn53 hw).symm)
  replace fp3 := fp3.other W36 (.inr (own_sn58 hw).symm)
  replace fp4 := fp4.same W36
  replace fp5 := fp5.other W36 (.inr (own_sn63 hw))
  replace fp6 := fp6.other W36 (.inr (own_sn64 hw))
  replace fp7 := fp7.other W36 (.inr (own_sn65 hw))
  replace fp8 := fp8.other W36 (.inr (own_sn66 hw))
  replace B10 := B10.wr W36
  replace f14 := f14.other W36 ne11.symm
  replace B19 := B19.wr W36
  replace f24 := f24.other W36 ne20.symm
  replace B29 := B29.wr W36
  replace f35 := f35.other W36 ne30.symm
  replace O0 := own_oldWr O0 W36 big_a1
  replace K0 := K0.wr W36 (Or.inl (List.mem_of_getElem? (i := 0) rfl))
  clear W36
  refine own_go (fun _ k => XS.aloadN X36.here hx rfl (hb hby d5_45) rfl rfl k) ?_
  show own_Go p e below s _ _ _ (T36.setTop (mkF m 46 #[rv a1, iv p2, rv a3, iv p4, iv p5, iv p6, .unset, .unset, .unset, .unset] [(.ref a1)]))
  refine own_go (fun _ k => XS.aloadN X36.here hx rfl (hb hby d5_46) rfl rfl k) ?_
  obtain ⟨v37, T37, L37, X37, hQ37, st37⟩ := own_callF (xi := (⟨"java/util/List", "size", "()I"⟩ : MethodName)) (y := (⟨"java/util/ArrayList", "size", "()I"⟩ : MethodName)) X36 hx hZ hown (ow36 hw) (ow37 hw) (ow38 hw) (ow39 hw) (ow40 hw) (ow41 hw) (ow42 hw) (ow43 hw) (ow3 hw) (ow44 hw) (by decide) (rm_alsize l Z a0 hw oDE oDV [] a3 (1 : Int32) h36 O0 (fp10.keep K0 (ninS ne1 nin0))) 1 0 0 (by show _ ≤ 6; omega) (by show _ ≤ 8; omega) e36 (fp9.keep K0) (g := (mkF m 47 #[rv a1, iv p2, rv a3, iv p4, iv p5, iv p6, .unset, .unset, .unset, .unset] [(.ref a3), (.ref a1)])) rfl (by rw [hml]; rfl) [] [(.ref a1)] (lenOf own_pd_9 rfl) rfl rfl (hb hby d5_47)
  obtain ⟨rfl, Nc39, Kc38⟩ := hQ37
  refine own_go st37 ?_
  clear st37 X36 e36
  replace N0 := Fr.app N0 Nc39
  clear Nc39
  obtain ⟨T40, h40, k40, X40, e40, E40, A40, B40, O40, st40⟩ := newRA X37 hx hZ hown (ty := .int) (by decide) (ow54 hw) (ow55 hw) Kc38 (g := (mkF m 52 #[rv a1, iv p2, rv a3, iv p4, iv p5, iv p6, .unset, .unset, .unset, .unset] [(.int (1 : Int32)), (.ref a1)])) rfl (hb hby d5_52) rfl (by decide) (cap := 1) (by decide) (by decide) (by show _ ≤ 6; omega) (by show _ ≤ 8; omega) (ad := "[[I") (by decide)
  obtain ⟨b40, g40⟩ : ∃ z, z = h36.size := ⟨_, rfl⟩
  rw [← g40] at A40 B40 st40
  refine own_go st40 ?_
  clear st40 X37 Kc38
  have ge40 := Nat.le_of_eq g40.symm
  have ne41 : a1 ≠ b40 := Nat.ne_of_lt (Nat.lt_of_lt_of_le fp0.lt ge40)
  have ne42 : b10 ≠ b40 := Nat.ne_of_lt (Nat.lt_of_lt_of_le B10.lt ge40)
  have ne43 : b19 ≠ b40 := Nat.ne_of_lt (Nat.lt_of_lt_of_le B19.lt ge40)
  have ne44 : b29 ≠ b40 := Nat.ne_of_lt (Nat.lt_of_lt_of_le B29.lt ge40)
  have big45 : Z.heap.size ≤ b40 := Nat.le_trans O0.1 ge40
  have sz46 : h0.size ≤ b40 := Nat.le_trans K0.1 ge40
  replace fp0 := fp0.ext E40
  replace fp1 := fp1.ext E40
  replace fp2 := fp2.ext E40
  replace fp3 := fp3.ext E40
  replace fp4 := fp4.ext E40
  replace fp5 := fp5.ext E40
  replace fp6 := fp6.ext E40
  replace fp7 := fp7.ext E40
  replace fp8 := fp8.ext E40
  replace B10 := B10.ext E40
  replace f14 := f14.ext E40
  replace B19 := B19.ext E40
  replace f24 := f24.ext E40
  replace B29 := B29.ext E40
  replace f35 := f35.ext E40
  replace O0 := own_oldExt O0 E40
  replace K0 := K0.ext E40
  clear E40
  have f47 : Arv Z h40 b40 k40 (.array .int) (1 : Int32) [.null] .null := (Arv.new A40 (by decide)).pad (pad_rep [] .null 1)
  obtain ⟨T48, h48, X48, e48, W48, st48⟩ := putF X40 hx hZ hown (host := "") (Or.inl (ow56 hw)) Via.refl e40 fp5 fp0 (Or.inr ⟨(ow57 hw), rfl, hnm⟩) (ow28 hw) (ty := (.array (.array .int))) own_fd6 rfl rfl (g := (mkF m 55 #[rv a1, iv p2, rv a3, iv p4, iv p5, iv p6, .unset, .unset, .unset, .unset] [(.ref b40), (.ref a1)])) rfl rfl (hb hby d5_55)
  refine own_go st48 ?_
  clear st48 X40 e40
  replace N0 := Fr.snoc X48 N0 big_a1
  replace fp0 := fp0.wr W48
  replace fp1 := fp1.other W48 (.inr (own_sn48 hw).symm)
  replace fp2 := fp2.other W48 (.inr (own_sn54 hw).symm)
  replace fp3 := fp3.other W48 (.inr (own_sn59 hw).symm)
  replace fp4 := fp4.other W48 (.inr (own_sn63 hw).symm)
  replace fp5 := fp5.same W48
  replace fp6 := fp6.other W48 (.inr (own_sn67 hw))
  replace fp7 := fp7.other W48 (.inr (own_sn68 hw))
  replace fp8 := fp8.other W48 (.inr (own_sn69 hw))
  replace B10 := B10.wr W48
  replace f14 := f14.other W48 ne11.symm
  replace B19 := B19.wr W48
  replace f24 := f24.other W48 ne20.symm
  replace B29 := B29.wr W48
  replace f35 := f35.other W48 ne30.symm
  replace B40 := B40.wr W48
  replace f47 := f47.other W48 ne41.symm
  replace O0 := own_oldWr O0 W48 big_a1
  replace K0 := K0.wr W48 (Or.inl (List.mem_of_getElem? (i := 0) rfl))
  clear W48
  refine own_go (fun _ k => XS.aloadN X48.here hx rfl (hb hby d5_58) rfl rfl k) ?_
  obtain ⟨v49, T49, L49, X49, hQ49, st49⟩ := own_callF (xi := (⟨"java/util/List", "iterator", "()Ljava/util/Iterator;"⟩ : MethodName)) (y := (⟨"java/util/ArrayList", "iterator", "()Ljava/util/Iterator;"⟩ : MethodName)) X48 hx hZ hown (ow58 hw) (ow59 hw) (ow60 hw) (ow61 hw) (ow62 hw) (ow63 hw) (ow64 hw) (ow43 hw) (ow3 hw) (ow65 hw) (by decide) (rm_aliter l Z a0 hw oDE oDV [] a3 mc h48 O0 (fp9.keep K0) (fp12.keep K0 (ninS ne1 nin0))) 0 1 4 (by show _ ≤ 6; omega) (by show _ ≤ 8; omega) e48 (fp9.keep K0) (g := (mkF m 59 #[rv a1, iv p2, rv a3, iv p4, iv p5, iv p6, .unset, .unset, .unset, .unset] [(.ref a3)])) rfl (by rw [hml]; rfl) [] [] (lenOf own_pd_10 rfl) rfl rfl (hb hby d5_59)
  obtain ⟨w50, rfl, Nc58, Kc57, hb51, f52, f53, f54, f55, f56⟩ := hQ49
  refine own_go st49 ?_
  clear st49 X48 e48
  replace N0 := Fr.app N0 Nc58
  clear Nc58
  have ne59 : a1 ≠ w50 := Nat.ne_of_lt (Nat.lt_of_lt_of_le fp0.lt hb51)
  have ne60 : b10 ≠ w50 := Nat.ne_of_lt (Nat.lt_of_lt_of_le B10.lt hb51)
  have ne61 : b19 ≠ w50 := Nat.ne_of_lt (Nat.lt_of_lt_of_le B19.lt hb51)
  have ne62 : b29 ≠ w50 := Nat.ne_of_lt (Nat.lt_of_lt_of_le B29.lt hb51)
  have ne63 : b40 ≠ w50 := Nat.ne_of_lt (Nat.lt_of_lt_of_le B40.lt hb51)
  have big64 : Z.heap.size ≤ w50 := Nat.le_trans O0.1 hb51
  have sz65 : h0.size ≤ w50 := Nat.le_trans K0.1 hb51
  replace fp0 := fp0.keep Kc57
  replace fp1 := fp1.keep Kc57 nin0
  replace fp2 := fp2.keep Kc57 nin0
  replace fp3 := fp3.keep Kc57 nin0
  replace fp4 := fp4.keep Kc57 nin0
  replace fp5 := fp5.keep Kc57 nin0
  replace fp6 := fp6.keep Kc57 nin0
  replace fp7 := fp7.keep Kc57 nin0
  replace fp8 := fp8.keep Kc57 nin0
  replace B10 := B10.keep Kc57
  replace f14 := f14.keep Kc57 nin0
  replace B19 := B19.keep Kc57
  replace f24 := f24.keep Kc57 nin0
  replace B29 := B29.keep Kc57
  replace f35 := f35.keep Kc57 nin0
  replace B40 := B40.keep Kc57
  replace f47 := f47.keep Kc57 nin0
  replace O0 := own_oldKeep O0 Kc57 all0
  replace K0 := K0.trans Kc57 all0
  clear Kc57
  refine own_go (fun _ k => XS.astore X49.here hx rfl (hb hby d5_64) rfl rfl (l' := #[rv a1, iv p2, rv a3, iv p4, iv p5, iv p6, rv w50, .unset, .unset, .unset]) rfl k) ?_
  show own_Go p e below s _ _ _ (T49.setTop (mkF m 66 #[rv a1, iv p2, rv a3, iv p4, iv p5, iv p6, rv w50, .unset, .unset, .unset] []))
  refine own_go (fun _ k => XS.aload X49.here hx rfl (hb hby d5_66) rfl rfl k) ?_
  obtain ⟨v66, T66, L66, X66, hQ66, st66⟩ := own_callF (xi := (⟨"java/util/Iterator", "hasNext", "()Z"⟩ : MethodName)) (y := (⟨"java/util/ArrayList$Itr", "hasNext", "()Z"⟩ : MethodName)) X49 hx hZ hown (ow82 hw) (ow83 hw) (ow84 hw) (ow85 hw) (ow86 hw) (ow87 hw) (ow88 hw) (ow89 hw) (ow68 hw) (ow90 hw) (by decide) (rm_hn_1_0 l Z a0 hw oDE oDV [] w50 a3 T49.heap O0 f53 f54 (fp10.keep K0 (ninS ne1 nin0))) 0 0 0 (by show _ ≤ 6; omega) (by show _ ≤ 8; omega) (rfl : T49.heap = T49.heap) f52 (g := (mkF m 68 #[rv a1, iv p2, rv a3, iv p4, iv p5, iv p6, rv w50, .unset, .unset, .unset] [(.ref w50)])) rfl (by rw [hml]; rfl) [] [] (lenOf own_pd_11 rfl) rfl rfl (hb hby d5_68)
  obtain ⟨rfl, Nc68, Kc67⟩ := hQ66
  refine own_go st66 ?_
  clear st66 X49
  replace N0 := Fr.app N0 Nc68
  clear Nc68
  refine own_go (fun _ k => XS.ifNo X66.here hx rfl (hb hby d5_73) rfl ((if0 _ _).trans (feq (by decide : ¬ ((1 : Int32) = (0 : Int32)))).1) k) ?_
  refine own_go (fun _ k => XS.aload X66.here hx rfl (hb hby d5_76) rfl rfl k) ?_
  obtain ⟨v69, T69, L69, X69, hQ69, st69⟩ := own_callF (xi := (⟨"java/util/Iterator", "next", "()Ljava/lang/Object;"⟩ : MethodName)) (y := (⟨"java/util/ArrayList$Itr", "next", "()Ljava/lang/Object;"⟩ : MethodName)) X66 hx hZ hown (ow176 hw) (ow177 hw) (ow178 hw) (ow179 hw) (ow180 hw) (ow181 hw) (ow182 hw) (ow89 hw) (ow68 hw) (ow183 hw) (by decide) (rm_nx_1_0 l Z a0 hw oDE oDV [] w50 a3 mc (-1 : Int32) b k el1 T49.heap O0 f52 f53 f54 f55 f56 (fp9.keep K0) (fp10.keep K0 (ninS ne1 nin0)) (fp11.keep K0 (ninS ne1 nin0)) (fp12.keep K0 (ninS ne1 nin0)) (fp13.keep K0 (ninS ne2 nin0)) big64) 0 0 0 (by show _ ≤ 6; omega) (by show _ ≤ 8; omega) Kc67 f52 (g := (mkF m 78 #[rv a1, iv p2, rv a3, iv p4, iv p5, iv p6, rv w50, .unset, .unset, .unset] [(.ref w50)])) rfl (by rw [hml]; rfl) [] [] (lenOf own_pd_12 rfl) rfl rfl (hb hby d5_78)
  obtain ⟨rfl, Nc76, Kc75, f70, f71, f72, f73, f74⟩ := hQ69
  refine own_go st69 ?_
  clear st69 X66 Kc67
  replace N0 := Fr.app N0 Nc76
  clear Nc76
  replace fp0 := fp0.keep Kc75
  replace fp1 := fp1.keep Kc75 (ninS ne59 nin0)
  replace fp2 := fp2.keep Kc75 (ninS ne59 nin0)
  replace fp3 := fp3.keep Kc75 (ninS ne59 nin0)
  replace fp4 := fp4.keep Kc75 (ninS ne59 nin0)
  replace fp5 := fp5.keep Kc75 (ninS ne59 nin0)
  replace fp6 := fp6.keep Kc75 (ninS ne59 nin0)
  replace fp7 := fp7.keep Kc75 (ninS ne59 nin0)
  replace fp8 := fp8.keep Kc75 (ninS ne59 nin0)
  replace B10 := B10.keep Kc75
  replace f14 := f14.keep Kc75 (ninS ne60 nin0)
  replace B19 := B19.keep Kc75
  replace f24 := f24.keep Kc75 (ninS ne61 nin0)
  replace B29 := B29.keep Kc75
  replace f35 := f35.keep Kc75 (ninS ne62 nin0)
  replace B40 := B40.keep Kc75
  replace f47 := f47.keep Kc75 (ninS ne63 nin0)
  replace f52 := f52.keep Kc75
  clear f53
  clear f54
  clear f55
  clear f56
  replace O0 := own_oldKeep O0 Kc75 (allS big64 all0)
  replace K0 := K0.trans Kc75 (allS (Or.inr sz65) all0)
  clear Kc75
  obtain ⟨T77, X77, e77, st77⟩ := castY X69 hx hZ hown (ow190 hw) (rfl : T69.heap = T69.heap) (Ins.self (fp14.keep K0)) (g := (mkF m 83 #[rv a1, iv p2, rv a3, iv p4, iv p5, iv p6, rv w50, .unset, .unset, .unset] [(.ref el1)])) rfl rfl (hb hby d5_83)
  refine own_go st77 ?_
  clear st77 X69
  refine own_go (fun _ k => XS.astore X77.here hx rfl (hb hby d5_86) rfl rfl (l' := #[rv a1, iv p2, rv a3, iv p4, iv p5, iv p6, rv w50, rv el1, .unset, .unset]) rfl k) ?_
  show own_Go p e below s _ _ _ (T77.setTop (mkF m 88 #[rv a1, iv p2, rv a3, iv p4, iv p5, iv p6, rv w50, rv el1, .unset, .unset] []))
  refine own_go (fun _ k => XS.aloadN X77.here hx rfl (hb hby d5_88) rfl rfl k) ?_
  obtain ⟨T78, X78, e78, st78⟩ := getF X77 hx hZ hown (host := "") (Or.inl (ow48 hw)) Via.refl e77 fp2 (g := (mkF m 89 #[rv a1, iv p2, rv a3, iv p4, iv p5, iv p6, rv w50, rv el1, .unset, .unset] [(.ref a1)])) rfl rfl (hb hby d5_89)
  refine own_go st78 ?_
  clear st78 X77 e77
  refine own_go (fun _ k => XS.aload X78.here hx rfl (hb hby d5_92) rfl rfl k) ?_
  obtain ⟨v79, T79, L79, X79, hQ79, st79⟩ := own_callV (y := (⟨"com/example/nudo/nudo/Vehicle", "trip", "()I"⟩ : MethodName)) (z := (⟨"com/example/nudo/nudo/Vehicle", "trip", "()I"⟩ : MethodName)) X78 hx hZ hown (ow192 hw) (ow193 hw) (notFace_of_selects (args := #[]) (mvT hZ (ow195 hw))) (ow195 hw) (ow194 hw) (ow111 hw) (ow196 hw) (rm_vtrip l Z a0 hw oDE oDV [] el1 (0 : Int32) T69.heap O0 (fp17.keep K0 (ninS ne3 nin0))) 1 0 0 (by show _ ≤ 6; omega) (by show _ ≤ 8; omega) e78 (fp14.keep K0) (g := (mkF m 94 #[rv a1, iv p2, rv a3, iv p4, iv p5, iv p6, rv w50, rv el1, .unset, .unset] [(.ref el1), (.ref b10)])) rfl (by rw [hml]; rfl) [] [(.ref b10)] (lenOf own_pd_9 rfl) rfl rfl (hb hby d5_94)
  obtain ⟨rfl, Nc81, Kc80⟩ := hQ79
  refine own_go st79 ?_
  clear st79 X78 e78
  replace N0 := Fr.app N0 Nc81
  clear Nc81
  refine own_go (fun _ k => XS.aload X79.here hx rfl (hb hby d5_97) rfl rfl k) ?_
  obtain ⟨v82, T82, L82, X82, hQ82, st82⟩ := own_callV (y := (⟨"com/example/nudo/nudo/Vehicle", "departureStep", "()I"⟩ : MethodName)) (z := (⟨"com/example/nudo/nudo/Vehicle", "departureStep", "()I"⟩ : MethodName)) X79 hx hZ hown (ow197 hw) (ow198 hw) (notFace_of_selects (args := #[]) (mvT hZ (ow200 hw))) (ow200 hw) (ow199 hw) (ow111 hw) (ow201 hw) (rm_vdepartureStep l Z a0 hw oDE oDV [] el1 d0 T69.heap O0 (fp19.keep K0 (ninS ne3 nin0))) 2 0 0 (by show _ ≤ 6; omega) (by show _ ≤ 8; omega) Kc80 (fp14.keep K0) (g := (mkF m 99 #[rv a1, iv p2, rv a3, iv p4, iv p5, iv p6, rv w50, rv el1, .unset, .unset] [(.ref el1), (.int (0 : Int32)), (.ref b10)])) rfl (by rw [hml]; rfl) [] [(.int (0 : Int32)), (.ref b10)] (lenOf own_pd_9 rfl) rfl rfl (hb hby d5_99)
  obtain ⟨rfl, Nc84, Kc83⟩ := hQ82
  refine own_go st82 ?_
  clear st82 X79 Kc80
  replace N0 := Fr.app N0 Nc84
  clear Nc84
  obtain ⟨cl85, Ar85, q85, S85, M85, P85, G85⟩ := id f14
  have hin85 : ¬ ((0 : Int32) < 0 ∨ cl85.slots.size ≤ ((0 : Int32)).toNatClampNeg) := inb_of S85 ⟨by decide, by decide⟩
  obtain ⟨T86, h86, X86, e86, W86, st86⟩ := stI X82 hx hZ Kc83 Ar85 (j := (0 : Int32)) hin85 (g := (mkF m 102 #[rv a1, iv p2, rv a3, iv p4, iv p5, iv p6, rv w50, rv el1, .unset, .unset] [(.int d0), (.int (0 : Int32)), (.ref b10)])) rfl rfl (hb hby d5_102)
  refine own_go st86 ?_
  clear st86 X82 Kc83
  have f87 : Arv Z h86 b10 k10 .int (1 : Int32) [(.int d0)] (.int (0 : Int32)) := Arv.set Ar85 q85 S85 M85 P85 G85 rfl W86 0 rfl (Nat.le_of_ble_eq_true rfl)
  replace N0 := Fr.snoc X86 N0 big12
  replace fp0 := fp0.wr W86
  replace fp1 := fp1.other W86 (Or.inl ne11)
  replace fp2 := fp2.other W86 (Or.inl ne11)
  replace fp3 := fp3.other W86 (Or.inl ne11)
  replace fp4 := fp4.other W86 (Or.inl ne11)
  replace fp5 := fp5.other W86 (Or.inl ne11)
  replace fp6 := fp6.other W86 (Or.inl ne11)
  replace fp7 := fp7.other W86 (Or.inl ne11)
  replace fp8 := fp8.other W86 (Or.inl ne11)
  replace B10 := B10.wr W86
  clear f14
  replace B19 := B19.wr W86
  replace f24 := f24.other W86 ne21.symm
  replace B29 := B29.wr W86
  replace f35 := f35.other W86 ne31.symm
  replace B40 := B40.wr W86
  replace f47 := f47.other W86 ne42.symm
  replace f70 := f70.wr W86
  replace f71 := f71.other W86 (Or.inl ne60.symm)
  replace f72 := f72.other W86 (Or.inl ne60.symm)
  replace f73 := f73.other W86 (Or.inl ne60.symm)
  replace f74 := f74.other W86 (Or.inl ne60.symm)
  replace O0 := own_oldWr O0 W86 big12
  replace K0 := K0.wr W86 (Or.inr sz13)
  clear W86
  clear Ar85 q85 S85 M85 P85 G85 hin85
  show own_Go p e below s _ _ _ (T86.setTop (mkF m 103 #[rv a1, iv p2, rv a3, iv p4, iv p5, iv p6, rv w50, rv el1, .unset, .unset] []))
  refine own_go (fun _ k => XS.aloadN X86.here hx rfl (hb hby d5_103) rfl rfl k) ?_
  obtain ⟨T88, X88, e88, st88⟩ := getF X86 hx hZ hown (host := "") (Or.inl (ow50 hw)) Via.refl e86 fp3 (g := (mkF m 104 #[rv a1, iv p2, rv a3, iv p4, iv p5, iv p6, rv w50, rv el1, .unset, .unset] [(.ref a1)])) rfl rfl (hb hby d5_104)
  refine own_go st88 ?_
  clear st88 X86 e86
  refine own_go (fun _ k => XS.aload X88.here hx rfl (hb hby d5_107) rfl rfl k) ?_
  obtain ⟨v89, T89, L89, X89, hQ89, st89⟩ := own_callV (y := (⟨"com/example/nudo/nudo/Vehicle", "trip", "()I"⟩ : MethodName)) (z := (⟨"com/example/nudo/nudo/Vehicle", "trip", "()I"⟩ : MethodName)) X88 hx hZ hown (ow192 hw) (ow193 hw) (notFace_of_selects (args := #[]) (mvT hZ (ow195 hw))) (ow195 hw) (ow194 hw) (ow111 hw) (ow196 hw) (rm_vtrip l Z a0 hw oDE oDV [] el1 (0 : Int32) h86 O0 (fp17.keep K0 (ninS ne3 nin0))) 1 0 0 (by show _ ≤ 6; omega) (by show _ ≤ 8; omega) e88 (fp14.keep K0) (g := (mkF m 109 #[rv a1, iv p2, rv a3, iv p4, iv p5, iv p6, rv w50, rv el1, .unset, .unset] [(.ref el1), (.ref b19)])) rfl (by rw [hml]; rfl) [] [(.ref b19)] (lenOf own_pd_9 rfl) rfl rfl (hb hby d5_109)
  obtain ⟨rfl, Nc91, Kc90⟩ := hQ89
  refine own_go st89 ?_
  clear st89 X88 e88
  replace N0 := Fr.app N0 Nc91
  clear Nc91
  refine own_go (fun _ k => XS.aload X89.here hx rfl (hb hby d5_112) rfl rfl k) ?_
  obtain ⟨v92, T92, L92, X92, hQ92, st92⟩ := own_callV (y := (⟨"com/example/nudo/nudo/Vehicle", "exitStep", "()I"⟩ : MethodName)) (z := (⟨"com/example/nudo/nudo/Vehicle", "exitStep", "()I"⟩ : MethodName)) X89 hx hZ hown (ow202 hw) (ow203 hw) (notFace_of_selects (args := #[]) (mvT hZ (ow205 hw))) (ow205 hw) (ow204 hw) (ow111 hw) (ow206 hw) (rm_vexitStep l Z a0 hw oDE oDV [] el1 x0 h86 O0 (fp16.keep K0 (ninS ne3 nin0))) 2 0 0 (by show _ ≤ 6; omega) (by show _ ≤ 8; omega) Kc90 (fp14.keep K0) (g := (mkF m 114 #[rv a1, iv p2, rv a3, iv p4, iv p5, iv p6, rv w50, rv el1, .unset, .unset] [(.ref el1), (.int (0 : Int32)), (.ref b19)])) rfl (by rw [hml]; rfl) [] [(.int (0 : Int32)), (.ref b19)] (lenOf own_pd_9 rfl) rfl rfl (hb hby d5_114)
  obtain ⟨rfl, Nc94, Kc93⟩ := hQ92
  refine own_go st92 ?_
  clear st92 X89 Kc90
  replace N0 := Fr.app N0 Nc94
  clear Nc94
  obtain ⟨cl95, Ar95, q95, S95, M95, P95, G95⟩ := id f24
  have hin95 : ¬ ((0 : Int32) < 0 ∨ cl95.slots.size ≤ ((0 : Int32)).toNatClampNeg) := inb_of S95 ⟨by decide, by decide⟩
  obtain ⟨T96, h96, X96, e96, W96, st96⟩ := stI X92 hx hZ Kc93 Ar95 (j := (0 : Int32)) hin95 (g := (mkF m 117 #[rv a1, iv p2, rv a3, iv p4, iv p5, iv p6, rv w50, rv el1, .unset, .unset] [(.int x0), (.int (0 : Int32)), (.ref b19)])) rfl rfl (hb hby d5_117)
  refine own_go st96 ?_
  clear st96 X92 Kc93
  have f97 : Arv Z h96 b19 k19 .int (1 : Int32) [(.int x0)] (.int (0 : Int32)) := Arv.set Ar95 q95 S95 M95 P95 G95 rfl W96 0 rfl (Nat.le_of_ble_eq_true rfl)
  replace N0 := Fr.snoc X96 N0 big22
  replace fp0 := fp0.wr W96
  replace fp1 := fp1.other W96 (Or.inl ne20)
  replace fp2 := fp2.other W96 (Or.inl ne20)
  replace fp3 := fp3.other W96 (Or.inl ne20)
  replace fp4 := fp4.other W96 (Or.inl ne20)
  replace fp5 := fp5.other W96 (Or.inl ne20)
  replace fp6 := fp6.other W96 (Or.inl ne20)
  replace fp7 := fp7.other W96 (Or.inl ne20)
  replace fp8 := fp8.other W96 (Or.inl ne20)
  replace B10 := B10.wr W96
  replace B19 := B19.wr W96
  clear f24
  replace B29 := B29.wr W96
  replace f35 := f35.other W96 ne32.symm
  replace B40 := B40.wr W96
  replace f47 := f47.other W96 ne43.symm
  replace f70 := f70.wr W96
  replace f71 := f71.other W96 (Or.inl ne61.symm)
  replace f72 := f72.other W96 (Or.inl ne61.symm)
  replace f73 := f73.other W96 (Or.inl ne61.symm)
  replace f74 := f74.other W96 (Or.inl ne61.symm)
  replace f87 := f87.other W96 ne21
  replace O0 := own_oldWr O0 W96 big22
  replace K0 := K0.wr W96 (Or.inr sz23)
  clear W96
  clear Ar95 q95 S95 M95 P95 G95 hin95
  show own_Go p e below s _ _ _ (T96.setTop (mkF m 118 #[rv a1, iv p2, rv a3, iv p4, iv p5, iv p6, rv w50, rv el1, .unset, .unset] []))
  refine own_go (fun _ k => XS.aloadN X96.here hx rfl (hb hby d5_118) rfl rfl k) ?_
  obtain ⟨T98, X98, e98, st98⟩ := getF X96 hx hZ hown (host := "") (Or.inl (ow52 hw)) Via.refl e96 fp4 (g := (mkF m 119 #[rv a1, iv p2, rv a3, iv p4, iv p5, iv p6, rv w50, rv el1, .unset, .unset] [(.ref a1)])) rfl rfl (hb hby d5_119)
  refine own_go st98 ?_
  clear st98 X96 e96
  refine own_go (fun _ k => XS.aload X98.here hx rfl (hb hby d5_122) rfl rfl k) ?_
  obtain ⟨v99, T99, L99, X99, hQ99, st99⟩ := own_callV (y := (⟨"com/example/nudo/nudo/Vehicle", "trip", "()I"⟩ : MethodName)) (z := (⟨"com/example/nudo/nudo/Vehicle", "trip", "()I"⟩ : MethodName)) X98 hx hZ hown (ow192 hw) (ow193 hw) (notFace_of_selects (args := #[]) (mvT hZ (ow195 hw))) (ow195 hw) (ow194 hw) (ow111 hw) (ow196 hw) (rm_vtrip l Z a0 hw oDE oDV [] el1 (0 : Int32) h96 O0 (fp17.keep K0 (ninS ne3 nin0))) 1 0 0 (by show _ ≤ 6; omega) (by show _ ≤ 8; omega) e98 (fp14.keep K0) (g := (mkF m 124 #[rv a1, iv p2, rv a3, iv p4, iv p5, iv p6, rv w50, rv el1, .unset, .unset] [(.ref el1), (.ref b29)])) rfl (by rw [hml]; rfl) [] [(.ref b29)] (lenOf own_pd_9 rfl) rfl rfl (hb hby d5_124)
  obtain ⟨rfl, Nc101, Kc100⟩ := hQ99
  refine own_go st99 ?_
  clear st99 X98 e98
  replace N0 := Fr.app N0 Nc101
  clear Nc101
  refine own_go (fun _ k => XS.aload X99.here hx rfl (hb hby d5_127) rfl rfl k) ?_
  obtain ⟨v102, T102, L102, X102, hQ102, st102⟩ := own_callV (y := (⟨"com/example/nudo/nudo/Vehicle", "pathCells", "()I"⟩ : MethodName)) (z := (⟨"com/example/nudo/nudo/Vehicle", "pathCells", "()I"⟩ : MethodName)) X99 hx hZ hown (ow207 hw) (ow208 hw) (notFace_of_selects (args := #[]) (mvT hZ (ow210 hw))) (ow210 hw) (ow209 hw) (ow111 hw) (ow211 hw) (rm_vpc l Z a0 hw oDE oDV [] el1 pa0 kp0 h96 O0 (fp18.keep K0 (ninS ne3 nin0)) (fp20.keep K0 (ninS ne4 nin0))) 2 0 0 (by show _ ≤ 6; omega) (by show _ ≤ 8; omega) Kc100 (fp14.keep K0) (g := (mkF m 129 #[rv a1, iv p2, rv a3, iv p4, iv p5, iv p6, rv w50, rv el1, .unset, .unset] [(.ref el1), (.int (0 : Int32)), (.ref b29)])) rfl (by rw [hml]; rfl) [] [(.int (0 : Int32)), (.ref b29)] (lenOf own_pd_9 rfl) rfl rfl (hb hby d5_129)
  obtain ⟨rfl, Nc104, Kc103⟩ := hQ102
  refine own_go st102 ?_
  clear st102 X99 Kc100
  replace N0 := Fr.app N0 Nc104
  clear Nc104
  obtain ⟨cl105, Ar105, q105, S105, M105, P105, G105⟩ := id f35
  have hin105 : ¬ ((0 : Int32) < 0 ∨ cl105.slots.size ≤ ((0 : Int32)).toNatClampNeg) := inb_of S105 ⟨by decide, by decide⟩
  obtain ⟨T106, h106, X106, e106, W106, st106⟩ := stI X102 hx hZ Kc103 Ar105 (j := (0 : Int32)) hin105 (g := (mkF m 132 #[rv a1, iv p2, rv a3, iv p4, iv p5, iv p6, rv w50, rv el1, .unset, .unset] [(.int (0 : Int32)), (.int (0 : Int32)), (.ref b29)])) rfl rfl (hb hby d5_132)
  refine own_go st106 ?_
  clear st106 X102 Kc103
  have f107 : Arv Z h106 b29 k29 .int (1 : Int32) [(.int (0 : Int32))] (.int (0 : Int32)) := Arv.set Ar105 q105 S105 M105 P105 G105 rfl W106 0 rfl (Nat.le_of_ble_eq_true rfl)
  replace N0 := Fr.snoc X106 N0 big33
  replace fp0 := fp0.wr W106
  replace fp1 := fp1.other W106 (Or.inl ne30)
  replace fp2 := fp2.other W106 (Or.inl ne30)
  replace fp3 := fp3.other W106 (Or.inl ne30)
  replace fp4 := fp4.other W106 (Or.inl ne30)
  replace fp5 := fp5.other W106 (Or.inl ne30)
  replace fp6 := fp6.other W106 (Or.inl ne30)
  replace fp7 := fp7.other W106 (Or.inl ne30)
  replace fp8 := fp8.other W106 (Or.inl ne30)
  replace B10 := B10.wr W106
  replace B19 := B19.wr W106
  replace B29 := B29.wr W106
  clear f35
  replace B40 := B40.wr W106
  replace f47 := f47.other W106 ne44.symm
  replace f70 := f70.wr W106
  replace f71 := f71.other W106 (Or.inl ne62.symm)
  replace f72 := f72.other W106 (Or.inl ne62.symm)
  replace f73 := f73.other W106 (Or.inl ne62.symm)
  replace f74 := f74.other W106 (Or.inl ne62.symm)
  replace f87 := f87.other W106 ne31
  replace f97 := f97.other W106 ne32
  replace O0 := own_oldWr O0 W106 big33
  replace K0 := K0.wr W106 (Or.inr sz34)
  clear W106
  clear Ar105 q105 S105 M105 P105 G105 hin105
  show own_Go p e below s _ _ _ (T106.setTop (mkF m 133 #[rv a1, iv p2, rv a3, iv p4, iv p5, iv p6, rv w50, rv el1, .unset, .unset] []))
  refine own_go (fun _ k => XS.aload X106.here hx rfl (hb hby d5_133) rfl rfl k) ?_
  obtain ⟨v108, T108, L108, X108, hQ108, st108⟩ := own_callV (y := (⟨"com/example/nudo/nudo/Vehicle", "linksEntered", "()I"⟩ : MethodName)) (z := (⟨"com/example/nudo/nudo/Vehicle", "linksEntered", "()I"⟩ : MethodName)) X106 hx hZ hown (ow212 hw) (ow213 hw) (notFace_of_selects (args := #[]) (mvT hZ (ow215 hw))) (ow215 hw) (ow214 hw) (ow111 hw) (ow216 hw) (rm_vle l Z a0 hw oDE oDV [] el1 h106 O0 (fp15.keep K0 (ninS ne3 nin0))) 0 0 0 (by show _ ≤ 6; omega) (by show _ ≤ 8; omega) e106 (fp14.keep K0) (g := (mkF m 135 #[rv a1, iv p2, rv a3, iv p4, iv p5, iv p6, rv w50, rv el1, .unset, .unset] [(.ref el1)])) rfl (by rw [hml]; rfl) [] [] (lenOf own_pd_9 rfl) rfl rfl (hb hby d5_135)
  obtain ⟨rfl, Nc110, Kc109⟩ := hQ108
  refine own_go st108 ?_
  clear st108 X106 e106
  replace N0 := Fr.app N0 Nc110
  clear Nc110
  obtain ⟨T111, h111, k111, X111, e111, E111, A111, B111, st111⟩ := newPE (aty := .int) X108 hx hZ (ow47 hw) Kc109 (g := (mkF m 138 #[rv a1, iv p2, rv a3, iv p4, iv p5, iv p6, rv w50, rv el1, .unset, .unset] [(.int (0 : Int32))])) rfl (hb hby d5_138) rfl (by decide) (cap := 0) (by decide) (by decide) (by show _ ≤ 6; omega) (by show _ ≤ 8; omega) (ad := "[I") (by decide)
  obtain ⟨b111, g111⟩ : ∃ z, z = h106.size := ⟨_, rfl⟩
  rw [← g111] at A111 B111 st111
  refine own_go st111 ?_
  clear st111 X108 Kc109
  have ge111 := Nat.le_of_eq g111.symm
  have ne112 : a1 ≠ b111 := Nat.ne_of_lt (Nat.lt_of_lt_of_le fp0.lt ge111)
  have ne113 : b10 ≠ b111 := Nat.ne_of_lt (Nat.lt_of_lt_of_le B10.lt ge111)
  have ne114 : b19 ≠ b111 := Nat.ne_of_lt (Nat.lt_of_lt_of_le B19.lt ge111)
  have ne115 : b29 ≠ b111 := Nat.ne_of_lt (Nat.lt_of_lt_of_le B29.lt ge111)
  have ne116 : b40 ≠ b111 := Nat.ne_of_lt (Nat.lt_of_lt_of_le B40.lt ge111)
  have ne117 : w50 ≠ b111 := Nat.ne_of_lt (Nat.lt_of_lt_of_le f70.lt ge111)
  have big118 : Z.heap.size ≤ b111 := Nat.le_trans O0.1 ge111
  have sz119 : h0.size ≤ b111 := Nat.le_trans K0.1 ge111
  replace fp0 := fp0.ext E111
  replace fp1 := fp1.ext E111
  replace fp2 := fp2.ext E111
  replace fp3 := fp3.ext E111
  replace fp4 := fp4.ext E111
  replace fp5 := fp5.ext E111
  replace fp6 := fp6.ext E111
  replace fp7 := fp7.ext E111
  replace fp8 := fp8.ext E111
  replace B10 := B10.ext E111
  replace B19 := B19.ext E111
  replace B29 := B29.ext E111
  replace B40 := B40.ext E111
  replace f47 := f47.ext E111
  replace f70 := f70.ext E111
  replace f71 := f71.ext E111
  replace f72 := f72.ext E111
  replace f73 := f73.ext E111
  replace f74 := f74.ext E111
  replace f87 := f87.ext E111
  replace f97 := f97.ext E111
  replace f107 := f107.ext E111
  replace O0 := own_oldExt O0 E111
  replace K0 := K0.ext E111
  clear E111
  have f120 : Arv Z h111 b111 k111 .int (0 : Int32) [] (.int (0 : Int32)) := (Arv.new A111 (by decide)).pad (pad_rep [] (.int (0 : Int32)) 0)
  refine own_go (fun _ k => XS.astore X111.here hx rfl (hb hby d5_140) rfl rfl (l' := #[rv a1, iv p2, rv a3, iv p4, iv p5, iv p6, rv w50, rv el1, rv b111, .unset]) rfl k) ?_
  refine own_go (fun _ k => XS.iconst X111.here hx rfl (hb hby d5_142) k) ?_
  refine own_go (fun _ k => XS.istore X111.here hx rfl (hb hby d5_143) rfl (l' := #[rv a1, iv p2, rv a3, iv p4, iv p5, iv p6, rv w50, rv el1, rv b111, iv (0 : Int32)]) rfl k) ?_
  refine own_go (fun _ k => XS.iload X111.here hx rfl (hb hby d5_145) rfl k) ?_
  show own_Go p e below s _ _ _ (T111.setTop (mkF m 147 #[rv a1, iv p2, rv a3, iv p4, iv p5, iv p6, rv w50, rv el1, rv b111, iv (0 : Int32)] [(.int (0 : Int32))]))
  refine own_go (fun _ k => XS.aload X111.here hx rfl (hb hby d5_147) rfl rfl k) ?_
  show own_Go p e below s _ _ _ (T111.setTop (mkF m 149 #[rv a1, iv p2, rv a3, iv p4, iv p5, iv p6, rv w50, rv el1, rv b111, iv (0 : Int32)] [(.ref b111), (.int (0 : Int32))]))
  obtain ⟨cl121, Ar121, -, S121, M121, -, -⟩ := id f120
  refine own_go (X111.arraylength hx (by rw [e111]; exact Ar121.1) (State.isArrayOf_alike hZ.alike Ar121.2.1) (g := (mkF m 149 #[rv a1, iv p2, rv a3, iv p4, iv p5, iv p6, rv w50, rv el1, rv b111, iv (0 : Int32)] [(.ref b111), (.int (0 : Int32))])) rfl rfl (hb hby d5_149)) ?_
  rw [len_of S121 M121]
  refine own_go (fun _ k => XS.icmpYes X111.here hx rfl (pc0 := 150) (pc' := 171) rfl (hb hby d5_150) rfl (flt (by decide : ¬ ((0 : Int32) < (0 : Int32)))).2.1 (by decide) (by decide) k) ?_
  refine own_go (fun _ k => XS.aloadN X111.here hx rfl (hb hby d5_171) rfl rfl k) ?_
  obtain ⟨T122, X122, e122, st122⟩ := getF X111 hx hZ hown (host := "") (Or.inl (ow56 hw)) Via.refl e111 fp5 (g := (mkF m 172 #[rv a1, iv p2, rv a3, iv p4, iv p5, iv p6, rv w50, rv el1, rv b111, iv (0 : Int32)] [(.ref a1)])) rfl rfl (hb hby d5_172)
  refine own_go st122 ?_
  clear st122 X111 e111
  refine own_go (fun _ k => XS.aload X122.here hx rfl (hb hby d5_175) rfl rfl k) ?_
  obtain ⟨v123, T123, L123, X123, hQ123, st123⟩ := own_callV (y := (⟨"com/example/nudo/nudo/Vehicle", "trip", "()I"⟩ : MethodName)) (z := (⟨"com/example/nudo/nudo/Vehicle", "trip", "()I"⟩ : MethodName)) X122 hx hZ hown (ow192 hw) (ow193 hw) (notFace_of_selects (args := #[]) (mvT hZ (ow195 hw))) (ow195 hw) (ow194 hw) (ow111 hw) (ow196 hw) (rm_vtrip l Z a0 hw oDE oDV [] el1 (0 : Int32) h111 O0 (fp17.keep K0 (ninS ne3 nin0))) 1 0 0 (by show _ ≤ 6; omega) (by show _ ≤ 8; omega) e122 (fp14.keep K0) (g := (mkF m 177 #[rv a1, iv p2, rv a3, iv p4, iv p5, iv p6, rv w50, rv el1, rv b111, iv (0 : Int32)] [(.ref el1), (.ref b40)])) rfl (by rw [hml]; rfl) [] [(.ref b40)] (lenOf own_pd_9 rfl) rfl rfl (hb hby d5_177)
  obtain ⟨rfl, Nc125, Kc124⟩ := hQ123
  refine own_go st123 ?_
  clear st123 X122 e122
  replace N0 := Fr.app N0 Nc125
  clear Nc125
  refine own_go (fun _ k => XS.aload X123.here hx rfl (hb hby d5_180) rfl rfl k) ?_
  show own_Go p e below s _ _ _ (T123.setTop (mkF m 182 #[rv a1, iv p2, rv a3, iv p4, iv p5, iv p6, rv w50, rv el1, rv b111, iv (0 : Int32)] [(.ref b111), (.int (0 : Int32)), (.ref b40)]))
  obtain ⟨cl126, Ar126, q126, S126, M126, P126, G126⟩ := id f47
  have hin126 : ¬ ((0 : Int32) < 0 ∨ cl126.slots.size ≤ ((0 : Int32)).toNatClampNeg) := inb_of S126 ⟨by decide, by decide⟩
  obtain ⟨T127, h127, X127, e127, W127, st127⟩ := stR X123 hx hZ Kc124 Ar126 (j := (0 : Int32)) hin126 rfl (Sto.ofVA Ar126 q126 O40 (Ins.self B111)) (g := (mkF m 182 #[rv a1, iv p2, rv a3, iv p4, iv p5, iv p6, rv w50, rv el1, rv b111, iv (0 : Int32)] [(.ref b111), (.int (0 : Int32)), (.ref b40)])) rfl rfl (hb hby d5_182)
  refine own_go st127 ?_
  clear st127 X123 Kc124
  have f128 : Arv Z h127 b40 k40 (.array .int) (1 : Int32) [(.ref b111)] .null := Arv.set Ar126 q126 S126 M126 P126 G126 rfl W127 0 rfl (Nat.le_of_ble_eq_true rfl)
  replace N0 := Fr.snoc X127 N0 big45
  replace fp0 := fp0.wr W127
  replace fp1 := fp1.other W127 (Or.inl ne41)
  replace fp2 := fp2.other W127 (Or.inl ne41)
  replace fp3 := fp3.other W127 (Or.inl ne41)
  replace fp4 := fp4.other W127 (Or.inl ne41)
  replace fp5 := fp5.other W127 (Or.inl ne41)
  replace fp6 := fp6.other W127 (Or.inl ne41)
  replace fp7 := fp7.other W127 (Or.inl ne41)
  replace fp8 := fp8.other W127 (Or.inl ne41)
  replace B10 := B10.wr W127
  replace B19 := B19.wr W127
  replace B29 := B29.wr W127
  replace B40 := B40.wr W127
  clear f47
  replace f70 := f70.wr W127
  replace f71 := f71.other W127 (Or.inl ne63.symm)
  replace f72 := f72.other W127 (Or.inl ne63.symm)
  replace f73 := f73.other W127 (Or.inl ne63.symm)
  replace f74 := f74.other W127 (Or.inl ne63.symm)
  replace f87 := f87.other W127 ne42
  replace f97 := f97.other W127 ne43
  replace f107 := f107.other W127 ne44
  replace B111 := B111.wr W127
  replace f120 := f120.other W127 ne116.symm
  replace O0 := own_oldWr O0 W127 big45
  replace K0 := K0.wr W127 (Or.inr sz46)
  clear W127
  clear Ar126 q126 S126 M126 P126 G126 hin126
  refine own_go (fun _ k => XS.goto X127.here hx rfl (pc0 := 183) (pc' := 66) rfl (hb hby d5_183) (by decide) (by decide) k) ?_
  refine own_go (fun _ k => XS.aload X127.here hx rfl (hb hby d5_66) rfl rfl k) ?_
  obtain ⟨v129, T129, L129, X129, hQ129, st129⟩ := own_callF (xi := (⟨"java/util/Iterator", "hasNext", "()Z"⟩ : MethodName)) (y := (⟨"java/util/ArrayList$Itr", "hasNext", "()Z"⟩ : MethodName)) X127 hx hZ hown (ow82 hw) (ow83 hw) (ow84 hw) (ow85 hw) (ow86 hw) (ow87 hw) (ow88 hw) (ow89 hw) (ow68 hw) (ow90 hw) (by decide) (rm_hn_1_1 l Z a0 hw oDE oDV [] w50 a3 h127 O0 f71 f72 (fp10.keep K0 (ninS ne1 nin0))) 0 0 0 (by show _ ≤ 6; omega) (by show _ ≤ 8; omega) e127 f70 (g := (mkF m 68 #[rv a1, iv p2, rv a3, iv p4, iv p5, iv p6, rv w50, rv el1, rv b111, iv (0 : Int32)] [(.ref w50)])) rfl (by rw [hml]; rfl) [] [] (lenOf own_pd_11 rfl) rfl rfl (hb hby d5_68)
  obtain ⟨rfl, Nc131, Kc130⟩ := hQ129
  refine own_go st129 ?_
  clear st129 X127 e127
  replace N0 := Fr.app N0 Nc131
  clear Nc131
  refine own_go (fun _ k => XS.ifYes X129.here hx rfl (pc0 := 73) (pc' := 186) rfl (hb hby d5_73) rfl ((if0 _ _).trans (teq (by decide : (0 : Int32) = (0 : Int32))).1) (by decide) (by decide) k) ?_
  refine own_go (fun _ k => XS.aloadN X129.here hx rfl (hb hby d5_186) rfl rfl k) ?_
  refine own_go (fun _ k => XS.iload X129.here hx rfl (hb hby d5_187) rfl k) ?_
  show own_Go p e below s _ _ _ (T129.setTop (mkF m 189 #[rv a1, iv p2, rv a3, iv p4, iv p5, iv p6, rv w50, rv el1, rv b111, iv (0 : Int32)] [(.int p6), (.ref a1)]))
  obtain ⟨T132, h132, X132, e132, W132, st132⟩ := putF X129 hx hZ hown (host := "") (Or.inl (ow94 hw)) Via.refl Kc130 fp6 fp0 (Or.inr ⟨(ow95 hw), rfl, hnm⟩) (ow28 hw) (ty := .int) own_fd0 rfl rfl (g := (mkF m 189 #[rv a1, iv p2, rv a3, iv p4, iv p5, iv p6, rv w50, rv el1, rv b111, iv (0 : Int32)] [(.int p6), (.ref a1)])) rfl rfl (hb hby d5_189)
  refine own_go st132 ?_
  clear st132 X129 Kc130
  replace N0 := Fr.snoc X132 N0 big_a1
  replace fp0 := fp0.wr W132
  replace fp1 := fp1.other W132 (.inr (own_sn49 hw).symm)
  replace fp2 := fp2.other W132 (.inr (own_sn55 hw).symm)
  replace fp3 := fp3.other W132 (.inr (own_sn60 hw).symm)
  replace fp4 := fp4.other W132 (.inr (own_sn64 hw).symm)
  replace fp5 := fp5.other W132 (.inr (own_sn67 hw).symm)
  replace fp6 := fp6.same W132
  replace fp7 := fp7.other W132 (.inr (own_sn70 hw))
  replace fp8 := fp8.other W132 (.inr (own_sn71 hw))
  replace B10 := B10.wr W132
  replace B19 := B19.wr W132
  replace B29 := B29.wr W132
  replace B40 := B40.wr W132
  replace f70 := f70.wr W132
  replace f71 := f71.other W132 (Or.inl ne59.symm)
  replace f72 := f72.other W132 (Or.inl ne59.symm)
  replace f73 := f73.other W132 (Or.inl ne59.symm)
  replace f74 := f74.other W132 (Or.inl ne59.symm)
  replace f87 := f87.other W132 ne11.symm
  replace f97 := f97.other W132 ne20.symm
  replace f107 := f107.other W132 ne30.symm
  replace B111 := B111.wr W132
  replace f120 := f120.other W132 ne112.symm
  replace f128 := f128.other W132 ne41.symm
  replace O0 := own_oldWr O0 W132 big_a1
  replace K0 := K0.wr W132 (Or.inl (List.mem_of_getElem? (i := 0) rfl))
  clear W132
  refine own_go (fun _ k => XS.aloadN X132.here hx rfl (hb hby d5_192) rfl rfl k) ?_
  refine own_go (fun _ k => XS.iloadN X132.here hx rfl (hb hby d5_193) rfl k) ?_
  obtain ⟨T133, h133, X133, e133, W133, st133⟩ := putF X132 hx hZ hown (host := "") (Or.inl (ow96 hw)) Via.refl e132 fp7 fp0 (Or.inr ⟨(ow97 hw), rfl, hnm⟩) (ow28 hw) (ty := .int) own_fd0 rfl rfl (g := (mkF m 194 #[rv a1, iv p2, rv a3, iv p4, iv p5, iv p6, rv w50, rv el1, rv b111, iv (0 : Int32)] [(.int p4), (.ref a1)])) rfl rfl (hb hby d5_194)
  refine own_go st133 ?_
  clear st133 X132 e132
  replace N0 := Fr.snoc X133 N0 big_a1
  replace fp0 := fp0.wr W133
  replace fp1 := fp1.other W133 (.inr (own_sn50 hw).symm)
  replace fp2 := fp2.other W133 (.inr (own_sn56 hw).symm)
  replace fp3 := fp3.other W133 (.inr (own_sn61 hw).symm)
  replace fp4 := fp4.other W133 (.inr (own_sn65 hw).symm)
  replace fp5 := fp5.other W133 (.inr (own_sn68 hw).symm)
  replace fp6 := fp6.other W133 (.inr (own_sn70 hw).symm)
  replace fp7 := fp7.same W133
  replace fp8 := fp8.other W133 (.inr (own_sn72 hw))
  replace B10 := B10.wr W133
  replace B19 := B19.wr W133
  replace B29 := B29.wr W133
  replace B40 := B40.wr W133
  replace f70 := f70.wr W133
  replace f71 := f71.other W133 (Or.inl ne59.symm)
  replace f72 := f72.other W133 (Or.inl ne59.symm)
  replace f73 := f73.other W133 (Or.inl ne59.symm)
  replace f74 := f74.other W133 (Or.inl ne59.symm)
  replace f87 := f87.other W133 ne11.symm
  replace f97 := f97.other W133 ne20.symm
  replace f107 := f107.other W133 ne30.symm
  replace B111 := B111.wr W133
  replace f120 := f120.other W133 ne112.symm
  replace f128 := f128.other W133 ne41.symm
  replace O0 := own_oldWr O0 W133 big_a1
  replace K0 := K0.wr W133 (Or.inl (List.mem_of_getElem? (i := 0) rfl))
  clear W133
  refine own_go (fun _ k => XS.aloadN X133.here hx rfl (hb hby d5_197) rfl rfl k) ?_
  refine own_go (fun _ k => XS.iload X133.here hx rfl (hb hby d5_198) rfl k) ?_
  obtain ⟨T134, h134, X134, e134, W134, st134⟩ := putF X133 hx hZ hown (host := "") (Or.inl (ow98 hw)) Via.refl e133 fp8 fp0 (Or.inr ⟨(ow99 hw), rfl, hnm⟩) (ow28 hw) (ty := .int) own_fd0 rfl rfl (g := (mkF m 200 #[rv a1, iv p2, rv a3, iv p4, iv p5, iv p6, rv w50, rv el1, rv b111, iv (0 : Int32)] [(.int p5), (.ref a1)])) rfl rfl (hb hby d5_200)
  refine own_go st134 ?_
  clear st134 X133 e133
  replace N0 := Fr.snoc X134 N0 big_a1
  replace fp0 := fp0.wr W134
  replace fp1 := fp1.other W134 (.inr (own_sn51 hw).symm)
  replace fp2 := fp2.other W134 (.inr (own_sn57 hw).symm)
  replace fp3 := fp3.other W134 (.inr (own_sn62 hw).symm)
  replace fp4 := fp4.other W134 (.inr (own_sn66 hw).symm)
  replace fp5 := fp5.other W134 (.inr (own_sn69 hw).symm)
  replace fp6 := fp6.other W134 (.inr (own_sn71 hw).symm)
  replace fp7 := fp7.other W134 (.inr (own_sn72 hw).symm)
  replace fp8 := fp8.same W134
  replace B10 := B10.wr W134
  replace B19 := B19.wr W134
  replace B29 := B29.wr W134
  replace B40 := B40.wr W134
  replace f70 := f70.wr W134
  replace f71 := f71.other W134 (Or.inl ne59.symm)
  replace f72 := f72.other W134 (Or.inl ne59.symm)
  replace f73 := f73.other W134 (Or.inl ne59.symm)
  replace f74 := f74.other W134 (Or.inl ne59.symm)
  replace f87 := f87.other W134 ne11.symm
  replace f97 := f97.other W134 ne20.symm
  replace f107 := f107.other W134 ne30.symm
  replace B111 := B111.wr W134
  replace f120 := f120.other W134 ne112.symm
  replace f128 := f128.other W134 ne41.symm
  replace O0 := own_oldWr O0 W134 big_a1
  replace K0 := K0.wr W134 (Or.inl (List.mem_of_getElem? (i := 0) rfl))
  clear W134
  show own_Go p e below s _ _ _ (T134.setTop (mkF m 203 #[rv a1, iv p2, rv a3, iv p4, iv p5, iv p6, rv w50, rv el1, rv b111, iv (0 : Int32)] []))
  refine own_retV X134 hx hlk e134 hret (hb hby d5_203) (by show _ ≤ 6; omega) (by show _ ≤ 8; omega) ?_
  exact ⟨b19, k19, rfl, N0, K0, fp0, fp3, fp7, fp8, f97⟩
def Q_lrinit2 (Z : State) (wd : Addr) (kd : ClassId) (a1 : Addr) (p2 : Int32) (a3 : Addr) (p4 : Int32) (p5 : Int32) (p6 : Int32) (mc : Int32) (b : Addr) (k : ClassId) (el1 : Addr) (x0 : Int32) (d0 : Int32) (pa0 : Addr) (kp0 : ClassId) (el2 : Addr) (x1 : Int32) (d1 : Int32) (pa1 : Addr) (kp1 : ClassId) (h0 : Heap) (v : Option Value) (h : Heap) (L : List Loc) : Prop := (∃ xs : Addr, ∃ kx : ClassId, v = none ∧ Fr Z.heap.size L ∧ Keep h0 h [a1] ∧ Exa Z h a1 "com/example/nudo/nudo/LoadingResult" ∧ Fld Z h a1 "com/example/nudo/nudo/LoadingResult" "exitSteps" "[I" (.ref xs) ∧ Fld Z h a1 "com/example/nudo/nudo/LoadingResult" "vehiclesWaiting" "I" (.int p4) ∧ Fld Z h a1 "com/example/nudo/nudo/LoadingResult" "vehiclesInNetwork" "I" (.int p5) ∧ Arv Z h xs kx .int (2 : Int32) [(.int x0), (.int x1)] (.int (0 : Int32)))
theorem ef_lrinit2 (m : MethodId) (x0 : Addr) (x1 : Int32) (x2 : Addr) (x3 : Int32) (x4 : Int32) (x5 : Int32) : entryFrame m #[(.ref x0), (.int x1), (.ref x2), (.int x3), (.int x4), (.int x5)] 10 = mkF m 0 #[rv x0, iv x1, rv x2, iv x3, iv x4, iv x5, .unset, .unset, .unset, .unset] [] := by first | (simp [entryFrame, mkF, argsToLocals, Value.category]; done) | rfl
set_option maxRecDepth 65536 in
set_option maxHeartbeats 40000000 in
theorem rm_lrinit2 (l : Launch) (Z : State) (a0 : Array Value) (hw : ∀ d ∈ tables_1, d.before a0 Z = true) {wd : Addr} {kd : ClassId} (oDE : Sta Z Z.heap "java/util/ArrayList" "DEFAULTCAPACITY_EMPTY_ELEMENTDATA" "[Ljava/lang/Object;" (.ref wd)) (oDV : Arv Z Z.heap wd kd (.object "java/lang/Object") (0 : Int32) [] .null) (ws : List Jvm.Cond) (a1 : Addr) (p2 : Int32) (a3 : Addr) (p4 : Int32) (p5 : Int32) (p6 : Int32) (mc : Int32) (b : Addr) (k : ClassId) (el1 : Addr) (x0 : Int32) (d0 : Int32) (pa0 : Addr) (kp0 : ClassId) (el2 : Addr) (x1 : Int32) (d1 : Int32) (pa1 : Addr) (kp1 : ClassId) (h0 : Heap) (O0 : Ext Z.heap h0) (fp0 : Exa Z h0 a1 "com/example/nudo/nudo/LoadingResult") (fp1 : Fld Z h0 a1 "com/example/nudo/nudo/LoadingResult" "timeStep" "I" (.int (0 : Int32))) (fp2 : Fld Z h0 a1 "com/example/nudo/nudo/LoadingResult" "departureSteps" "[I" .null) (fp3 : Fld Z h0 a1 "com/example/nudo/nudo/LoadingResult" "exitSteps" "[I" .null) (fp4 : Fld Z h0 a1 "com/example/nudo/nudo/LoadingResult" "freeFlowSteps" "[I" .null) (fp5 : Fld Z h0 a1 "com/example/nudo/nudo/LoadingResult" "linkEntrySteps" "[[I" .null) (fp6 : Fld Z h0 a1 "com/example/nudo/nudo/LoadingResult" "endStep" "I" (.int (0 : Int32))) (fp7 : Fld Z h0 a1 "com/example/nudo/nudo/LoadingResult" "vehiclesWaiting" "I" (.int (0 : Int32))) (fp8 : Fld Z h0 a1 "com/example/nudo/nudo/LoadingResult" "vehiclesInNetwork" "I" (.int (0 : Int32))) (fp9 : Exa Z h0 a3 "java/util/ArrayList") (fp10 : Fld Z h0 a3 "java/util/ArrayList" "size" "I" (.int (2 : Int32))) (fp11 : Fld Z h0 a3 "java/util/ArrayList" "elementData" "[Ljava/lang/Object;" (.ref b)) (fp12 : Fld Z h0 a3 "java/util/AbstractList" "modCount" "I" (.int mc)) (fp13 : Arv Z h0 b k (.object "java/lang/Object") (10 : Int32) [(.ref el1), (.ref el2), .null, .null, .null, .null, .null, .null, .null, .null] .null) (fp14 : Exa Z h0 el1 "com/example/nudo/nudo/Vehicle") (fp15 : Fld Z h0 el1 "com/example/nudo/nudo/Vehicle" "position" "I" (.int (-1 : Int32))) (fp16 : Fld Z h0 el1 "com/example/nudo/nudo/Vehicle" "exitStep" "I" (.int x0)) (fp17 : Fld Z h0 el1 "com/example/nudo/nudo/Vehicle" "trip" "I" (.int (0 : Int32))) (fp18 : Fld Z h0 el1 "com/example/nudo/nudo/Vehicle" "path" "[Lcom/example/nudo/nudo/CellLink;" (.ref pa0)) (fp19 : Fld Z h0 el1 "com/example/nudo/nudo/Vehicle" "departureStep" "I" (.int d0)) (fp20 : Arv Z h0 pa0 kp0 (.object "com/example/nudo/nudo/CellLink") (0 : Int32) [] .null) (fp21 : Exa Z h0 el2 "com/example/nudo/nudo/Vehicle") (fp22 : Fld Z h0 el2 "com/example/nudo/nudo/Vehicle" "position" "I" (.int (-1 : Int32))) (fp23 : Fld Z h0 el2 "com/example/nudo/nudo/Vehicle" "exitStep" "I" (.int x1)) (fp24 : Fld Z h0 el2 "com/example/nudo/nudo/Vehicle" "trip" "I" (.int (1 : Int32))) (fp25 : Fld Z h0 el2 "com/example/nudo/nudo/Vehicle" "path" "[Lcom/example/nudo/nudo/CellLink;" (.ref pa1)) (fp26 : Fld Z h0 el2 "com/example/nudo/nudo/Vehicle" "departureStep" "I" (.int d1)) (fp27 : Arv Z h0 pa1 kp1 (.object "com/example/nudo/nudo/CellLink") (0 : Int32) [] .null) (big_a1 : Z.heap.size ≤ a1) :
    own_MF l Z h0 (⟨"com/example/nudo/nudo/LoadingResult", "<init>", "(ILjava/util/List;III)V"⟩ : MethodName) prog_30_method_1_code 10 none ({ frames := 3, cells := 7, slots := 12, locals := 38 } : Room) #[(.ref a1), (.int p2), (.ref a3), (.int p4), (.int p5), (.int p6)] (Q_lrinit2 Z wd kd a1 p2 a3 p4 p5 p6 mc b k el1 x0 d0 pa0 kp0 el2 x1 d1 pa1 kp1 h0) ws := by
  refine own_met (Q := (Q_lrinit2 Z wd kd a1 p2 a3 p4 p5 p6 mc b k el1 x0 d0 pa0 kp0 el2 x1 d1 pa1 kp1 h0)) _ _ (plainFor_of_name own_pn_7) ?_
  intro p e s m below meth c T X0 hx hby hml hret hlk hZ hown hnm e0
  replace hown : s.vm.findClass "com/example/nudo/nudo/LoadingResult" = some m.cls := hown
  replace hnm : meth.name = "<init>" := hnm
  have hml : c.maxLocals = 10 := hml
  have N0 := Fr.nil Z.heap.size
  have K0 := Keep.refl h0 [a1]
  refine own_go (fun _ k => castTop (ef_lrinit2 m a1 p2 a3 p4 p5 p6) k) ?_
  have ne1 : a3 ≠ a1 := (ne_exa fp9 fp0 (by decide))
  have ne2 : b ≠ a1 := (Ne.symm (Exa.neArv fp0 fp13 (ow28 hw)))
  have ne3 : el1 ≠ a1 := (ne_exa fp14 fp0 (by decide))
  have ne4 : pa0 ≠ a1 := (Ne.symm (Exa.neArv fp0 fp20 (ow28 hw)))
  have ne5 : el2 ≠ a1 := (ne_exa fp21 fp0 (by decide))
  have ne6 : pa1 ≠ a1 := (Ne.symm (Exa.neArv fp0 fp27 (ow28 hw)))
  show own_Go p e below s _ _ _ (T.setTop (mkF m 0 #[rv a1, iv p2, rv a3, iv p4, iv p5, iv p6, .unset, .unset, .unset, .unset] []))
  refine own_go (fun _ k => XS.aloadN X0.here hx rfl (hb hby d5_0) rfl rfl k) ?_
  obtain ⟨T7, X7, e7, st7⟩ := initO X0 hx hZ hown (ow33 hw) (ow20 hw) (ow21 hw) e0 (g := (mkF m 1 #[rv a1, iv p2, rv a3, iv p4, iv p5, iv p6, .unset, .unset, .unset, .unset] [(.ref a1)])) rfl (by rw [hml]; rfl) rfl (hb hby d5_1) (by decide) (W := 0) (by show 2 * 0 + _ ≤ _; exact Nat.le_of_eq rfl) (by decide)
  refine own_go st7 ?_
  clear st7 X0 e0
  refine own_go (fun _ k => XS.aloadN X7.here hx rfl (hb hby d5_4) rfl rfl k) ?_
  refine own_go (fun _ k => XS.iloadN X7.here hx rfl (hb hby d5_5) rfl k) ?_
  obtain ⟨T8, h8, X8, e8, W8, st8⟩ := putF X7 hx hZ hown (host := "") (Or.inl (ow34 hw)) Via.refl e7 fp1 fp0 (Or.inr ⟨(ow35 hw), rfl, hnm⟩) (ow28 hw) (ty := .int) own_fd0 rfl rfl (g := (mkF m 6 #[rv a1, iv p2, rv a3, iv p4, iv p5, iv p6, .unset, .unset, .unset, .unset] [(.int p2), (.ref a1)])) rfl rfl (hb hby d5_6)
  refine own_go st8 ?_
  clear st8 X7 e7
  replace N0 := Fr.snoc X8 N0 big_a1
  replace fp0 := fp0.wr W8
  replace fp1 := fp1.same W8
  replace fp2 := fp2.other W8 (.inr (own_sn45 hw))
  replace fp3 := fp3.other W8 (.inr (own_sn46 hw))
  replace fp4 := fp4.other W8 (.inr (own_sn47 hw))
  replace fp5 := fp5.other W8 (.inr (own_sn48 hw))
  replace fp6 := fp6.other W8 (.inr (own_sn49 hw))
  replace fp7 := fp7.other W8 (.inr (own_sn50 hw))
  replace fp8 := fp8.other W8 (.inr (own_sn51 hw))
  replace O0 := own_oldWr O0 W8 big_a1
  replace K0 := K0.wr W8 (Or.inl (List.mem_of_getElem? (i := 0) rfl))
  clear W8
  refine own_go (fun _ k => XS.aloadN X8.here hx rfl (hb hby d5_9) rfl rfl k) ?_
  refine own_go (fun _ k => XS.aloadN X8.here hx rfl (hb hby d5_10) rfl rfl k) ?_
  show own_Go p e below s _ _ _ (T8.setTop (mkF m 11 #[rv a1, iv p2, rv a3, iv p4, iv p5, iv p6, .unset, .unset, .unset, .unset] [(.ref a3), (.ref a1)]))
  obtain ⟨v9, T9, L9, X9, hQ9, st9⟩ := own_callF (xi := (⟨"java/util/List", "size", "()I"⟩ : MethodName)) (y := (⟨"java/util/ArrayList", "size", "()I"⟩ : MethodName)) X8 hx hZ hown (ow36 hw) (ow37 hw) (ow38 hw) (ow39 hw) (ow40 hw) (ow41 hw) (ow42 hw) (ow43 hw) (ow3 hw) (ow44 hw) (by decide) (rm_alsize l Z a0 hw oDE oDV [] a3 (2 : Int32) h8 O0 (fp10.keep K0 (ninS ne1 nin0))) 1 0 0 (by show _ ≤ 7; omega) (by show _ ≤ 12; omega) e8 (fp9.keep K0) (g := (mkF m 11 #[rv a1, iv p2, rv a3, iv p4, iv p5, iv p6, .unset, .unset, .unset, .unset] [(.ref a3), (.ref a1)])) rfl (by rw [hml]; rfl) [] [(.ref a1)] (lenOf own_pd_9 rfl) rfl rfl (hb hby d5_11)
  obtain ⟨rfl, Nc11, Kc10⟩ := hQ9
  refine own_go st9 ?_
  clear st9 X8 e8
  replace N0 := Fr.app N0 Nc11
  clear Nc11
  obtain ⟨T12, h12, k12, X12, e12, E12, A12, B12, st12⟩ := newPE (aty := .int) X9 hx hZ (ow47 hw) Kc10 (g := (mkF m 16 #[rv a1, iv p2, rv a3, iv p4, iv p5, iv p6, .unset, .unset, .unset, .unset] [(.int (2 : Int32)), (.ref a1)])) rfl (hb hby d5_16) rfl (by decide) (cap := 2) (by decide) (by decide) (by show _ ≤ 7; omega) (by show _ ≤ 12; omega) (ad := "[I") (by decide)
  obtain ⟨b12, g12⟩ : ∃ z, z = h8.size := ⟨_, rfl⟩
  rw [← g12] at A12 B12 st12
  refine own_go st12 ?_
  clear st12 X9 Kc10
  have ge12 := Nat.le_of_eq g12.symm
  have ne13 : a1 ≠ b12 := Nat.ne_of_lt (Nat.lt_of_lt_of_le fp0.lt ge12)
  have big14 : Z.heap.size ≤ b12 := Nat.le_trans O0.1 ge12
  have sz15 : h0.size ≤ b12 := Nat.le_trans K0.1 ge12
  replace fp0 := fp0.ext E12
  replace fp1 := fp1.ext E12
  replace fp2 := fp2.ext E12
  replace fp3 := fp3.ext E12
  replace fp4 := fp4.ext E12
  replace fp5 := fp5.ext E12
  replace fp6 := fp6.ext E12
  replace fp7 := fp7.ext E12
  replace fp8 := fp8.ext E12
  replace O0 := own_oldExt O0 E12
  replace K0 := K0.ext E12
  clear E12
  have f16 : Arv Z h12 b12 k12 .int (2 : Int32) [(.int (0 : Int32)), (.int (0 : Int32))] (.int (0 : Int32)) := (Arv.new A12 (by decide)).pad (pad_rep [] (.int (0 : Int32)) 2)
  obtain ⟨T17, h17, X17, e17, W17, st17⟩ := putF X12 hx hZ hown (host := "") (Or.inl (ow48 hw)) Via.refl e12 fp2 fp0 (Or.inr ⟨(ow49 hw), rfl, hnm⟩) (ow28 hw) (ty := (.array .int)) own_fd4 rfl rfl (g := (mkF m 18 #[rv a1, iv p2, rv a3, iv p4, iv p5, iv p6, .unset, .unset, .unset, .unset] [(.ref b12), (.ref a1)])) rfl rfl (hb hby d5_18)
  refine own_go st17 ?_
  clear st17 X12 e12
  replace N0 := Fr.snoc X17 N0 big_a1
  replace fp0 := fp0.wr W17
  replace fp1 := fp1.other W17 (.inr (own_sn45 hw).symm)
  replace fp2 := fp2.same W17
  replace fp3 := fp3.other W17 (.inr (own_sn52 hw))
  replace fp4 := fp4.other W17 (.inr (own_sn53 hw))
  replace fp5 := fp5.other W17 (.inr (own_sn54 hw))
  replace fp6 := fp6.other W17 (.inr (own_sn55 hw))
  replace fp7 := fp7.other W17 (.inr (own_sn56 hw))
  replace fp8 := fp8.other W17 (.inr (own_sn57 hw))
  replace B12 := B12.wr W17
  replace f16 := f16.other W17 ne13.symm
  replace O0 := own_oldWr O0 W17 big_a1
  replace K0 := K0.wr W17 (Or.inl (List.mem_of_getElem? (i := 0) rfl))
  clear W17
  refine own_go (fun _ k => XS.aloadN X17.here hx rfl (hb hby d5_21) rfl rfl k) ?_
  refine own_go (fun _ k => XS.aloadN X17.here hx rfl (hb hby d5_22) rfl rfl k) ?_
  obtain ⟨v18, T18, L18, X18, hQ18, st18⟩ := own_callF (xi := (⟨"java/util/List", "size", "()I"⟩ : MethodName)) (y := (⟨"java/util/ArrayList", "size", "()I"⟩ : MethodName)) X17 hx hZ hown (ow36 hw) (ow37 hw) (ow38 hw) (ow39 hw) (ow40 hw) (ow41 hw) (ow42 hw) (ow43 hw) (ow3 hw) (ow44 hw) (by decide) (rm_alsize l Z a0 hw oDE oDV [] a3 (2 : Int32) h17 O0 (fp10.keep K0 (ninS ne1 nin0))) 1 0 0 (by show _ ≤ 7; omega) (by show _ ≤ 12; omega) e17 (fp9.keep K0) (g := (mkF m 23 #[rv a1, iv p2, rv a3, iv p4, iv p5, iv p6, .unset, .unset, .unset, .unset] [(.ref a3), (.ref a1)])) rfl (by rw [hml]; rfl) [] [(.ref a1)] (lenOf own_pd_9 rfl) rfl rfl (hb hby d5_23)
  obtain ⟨rfl, Nc20, Kc19⟩ := hQ18
  refine own_go st18 ?_
  clear st18 X17 e17
  replace N0 := Fr.app N0 Nc20
  clear Nc20
  obtain ⟨T21, h21, k21, X21, e21, E21, A21, B21, st21⟩ := newPE (aty := .int) X18 hx hZ (ow47 hw) Kc19 (g := (mkF m 28 #[rv a1, iv p2, rv a3, iv p4, iv p5, iv p6, .unset, .unset, .unset, .unset] [(.int (2 : Int32)), (.ref a1)])) rfl (hb hby d5_28) rfl (by decide) (cap := 2) (by decide) (by decide) (by show _ ≤ 7; omega) (by show _ ≤ 12; omega) (ad := "[I") (by decide)
  obtain ⟨b21, g21⟩ : ∃ z, z = h17.size := ⟨_, rfl⟩
  rw [← g21] at A21 B21 st21
  refine own_go st21 ?_
  clear st21 X18 Kc19
  have ge21 := Nat.le_of_eq g21.symm
  have ne22 : a1 ≠ b21 := Nat.ne_of_lt (Nat.lt_of_lt_of_le fp0.lt ge21)
  have ne23 : b12 ≠ b21 := Nat.ne_of_lt (Nat.lt_of_lt_of_le B12.lt ge21)
  have big24 : Z.heap.size ≤ b21 := Nat.le_trans O0.1 ge21
  have sz25 : h0.size ≤ b21 := Nat.le_trans K0.1 ge21
  replace fp0 := fp0.ext E21
  replace fp1 := fp1.ext E21
  replace fp2 := fp2.ext E21
  replace fp3 := fp3.ext E21
  replace fp4 := fp4.ext E21
  replace fp5 := fp5.ext E21
  replace fp6 := fp6.ext E21
  replace fp7 := fp7.ext E21
  replace fp8 := fp8.ext E21
  replace B12 := B12.ext E21
  replace f16 := f16.ext E21
  replace O0 := own_oldExt O0 E21
  replace K0 := K0.ext E21
  clear E21
  have f26 : Arv Z h21 b21 k21 .int (2 : Int32) [(.int (0 : Int32)), (.int (0 : Int32))] (.int (0 : Int32)) := (Arv.new A21 (by decide)).pad (pad_rep [] (.int (0 : Int32)) 2)
  show own_Go p e below s _ _ _ (T21.setTop (mkF m 30 #[rv a1, iv p2, rv a3, iv p4, iv p5, iv p6, .unset, .unset, .unset, .unset] [(.ref b21), (.ref a1)]))
  obtain ⟨T27, h27, X27, e27, W27, st27⟩ := putF X21 hx hZ hown (host := "") (Or.inl (ow50 hw)) Via.refl e21 fp3 fp0 (Or.inr ⟨(ow51 hw), rfl, hnm⟩) (ow28 hw) (ty := (.array .int)) own_fd4 rfl rfl (g := (mkF m 30 #[rv a1, iv p2, rv a3, iv p4, iv p5, iv p6, .unset, .unset, .unset, .unset] [(.ref b21), (.ref a1)])) rfl rfl (hb hby d5_30)
  refine own_go st27 ?_
  clear st27 X21 e21
  replace N0 := Fr.snoc X27 N0 big_a1
  replace fp0 := fp0.wr W27
  replace fp1 := fp1.other W27 (.inr (own_sn46 hw).symm)
  replace fp2 := fp2.other W27 (.inr (own_sn52 hw).symm)
  replace fp3 := fp3.same W27
  replace fp4 := fp4.other W27 (.inr (own_sn58 hw))
  replace fp5 := fp5.other W27 (.inr (own_sn59 hw))
  replace fp6 := fp6.other W27 (.inr (own_sn60 hw))
  replace fp7 := fp7.other W27 (.inr (own_sn61 hw))
  replace fp8 := fp8.other W27 (.inr (own_sn62 hw))
  replace B12 := B12.wr W27
  replace f16 := f16.other W27 ne13.symm
  replace B21 := B21.wr W27
  replace f26 := f26.other W27 ne22.symm
  replace O0 := own_oldWr O0 W27 big_a1
  replace K0 := K0.wr W27 (Or.inl (List.mem_of_getElem? (i := 0) rfl))
  clear W27
  refine own_go (fun _ k => XS.aloadN X27.here hx rfl (hb hby d5_33) rfl rfl k) ?_
  refine own_go (fun _ k => XS.aloadN X27.here hx rfl (hb hby d5_34) rfl rfl k) ?_
  obtain ⟨v28, T28, L28, X28, hQ28, st28⟩ := own_callF (xi := (⟨"java/util/List", "size", "()I"⟩ : MethodName)) (y := (⟨"java/util/ArrayList", "size", "()I"⟩ : MethodName)) X27 hx hZ hown (ow36 hw) (ow37 hw) (ow38 hw) (ow39 hw) (ow40 hw) (ow41 hw) (ow42 hw) (ow43 hw) (ow3 hw) (ow44 hw) (by decide) (rm_alsize l Z a0 hw oDE oDV [] a3 (2 : Int32) h27 O0 (fp10.keep K0 (ninS ne1 nin0))) 1 0 0 (by show _ ≤ 7; omega) (by show _ ≤ 12; omega) e27 (fp9.keep K0) (g := (mkF m 35 #[rv a1, iv p2, rv a3, iv p4, iv p5, iv p6, .unset, .unset, .unset, .unset] [(.ref a3), (.ref a1)])) rfl (by rw [hml]; rfl) [] [(.ref a1)] (lenOf own_pd_9 rfl) rfl rfl (hb hby d5_35)
  obtain ⟨rfl, Nc30, Kc29⟩ := hQ28
  refine own_go st28 ?_
  clear st28 X27 e27
  replace N0 := Fr.app N0 Nc30
  clear Nc30
  obtain ⟨T31, h31, k31, X31, e31, E31, A31, B31, st31⟩ := newPE (aty := .int) X28 hx hZ (ow47 hw) Kc29 (g := (mkF m 40 #[rv a1, iv p2, rv a3, iv p4, iv p5, iv p6, .unset, .unset, .unset, .unset] [(.int (2 : Int32)), (.ref a1)])) rfl (hb hby d5_40) rfl (by decide) (cap := 2) (by decide) (by decide) (by show _ ≤ 7; omega) (by show _ ≤ 12; omega) (ad := "[I") (by decide)
  obtain ⟨b31, g31⟩ : ∃ z, z = h27.size := ⟨_, rfl⟩
  rw [← g31] at A31 B31 st31
  refine own_go st31 ?_
  clear st31 X28 Kc29
  have ge31 := Nat.le_of_eq g31.symm
  have ne32 : a1 ≠ b31 := Nat.ne_of_lt (Nat.lt_of_lt_of_le fp0.lt ge31)
  have ne33 : b12 ≠ b31 := Nat.ne_of_lt (Nat.lt_of_lt_of_le B12.lt ge31)
  have ne34 : b21 ≠ b31 := Nat.ne_of_lt (Nat.lt_of_lt_of_le B21.lt ge31)
  have big35 : Z.heap.size ≤ b31 := Nat.le_trans O0.1 ge31
  have sz36 : h0.size ≤ b31 := Nat.le_trans K0.1 ge31
  replace fp0 := fp0.ext E31
  replace fp1 := fp1.ext E31
  replace fp2 := fp2.ext E31
  replace fp3 := fp3.ext E31
  replace fp4 := fp4.ext E31
  replace fp5 := fp5.ext E31
  replace fp6 := fp6.ext E31
  replace fp7 := fp7.ext E31
  replace fp8 := fp8.ext E31
  replace B12 := B12.ext E31
  replace f16 := f16.ext E31
  replace B21 := B21.ext E31
  replace f26 := f26.ext E31
  replace O0 := own_oldExt O0 E31
  replace K0 := K0.ext E31
  clear E31
  have f37 : Arv Z h31 b31 k31 .int (2 : Int32) [(.int (0 : Int32)), (.int (0 : Int32))] (.int (0 : Int32)) := (Arv.new A31 (by decide)).pad (pad_rep [] (.int (0 : Int32)) 2)
  obtain ⟨T38, h38, X38, e38, W38, st38⟩ := putF X31 hx hZ hown (host := "") (Or.inl (ow52 hw)) Via.refl e31 fp4 fp0 (Or.inr ⟨(ow53 hw), rfl, hnm⟩) (ow28 hw) (ty := (.array .int)) own_fd4 rfl rfl (g := (mkF m 42 #[rv a1, iv p2, rv a3, iv p4, iv p5, iv p6, .unset, .unset, .unset, .unset] [(.ref b31), (.ref a1)])) rfl rfl (hb hby d5_42)
  refine own_go st38 ?_
  clear st38 X31 e31
  replace N0 := Fr.snoc X38 N0 big_a1
  replace fp0 := fp0.wr W38
  replace fp1 := fp1.other W38 (.inr (own_sn47 hw).symm)
  replace fp2 := fp2.other W38 (.inr (own_sn53 hw).symm)
  replace fp3 := fp3.other W38 (.inr (own_sn58 hw).symm)
  replace fp4 := fp4.same W38
  replace fp5 := fp5.other W38 (.inr (own_sn63 hw))
  replace fp6 := fp6.other W38 (.inr (own_sn64 hw))
  replace fp7 := fp7.other W38 (.inr (own_sn65 hw))
  replace fp8 := fp8.other W38 (.inr (own_sn66 hw))
  replace B12 := B12.wr W38
  replace f16 := f16.other W38 ne13.symm
  replace B21 := B21.wr W38
  replace f26 := f26.other W38 ne22.symm
  replace B31 := B31.wr W38
  replace f37 := f37.other W38 ne32.symm
  replace O0 := own_oldWr O0 W38 big_a1
  replace K0 := K0.wr W38 (Or.inl (List.mem_of_getElem? (i := 0) rfl))
  clear W38
  refine own_go (fun _ k => XS.aloadN X38.here hx rfl (hb hby d5_45) rfl rfl k) ?_
  show own_Go p e below s _ _ _ (T38.setTop (mkF m 46 #[rv a1, iv p2, rv a3, iv p4, iv p5, iv p6, .unset, .unset, .unset, .unset] [(.ref a1)]))
  refine own_go (fun _ k => XS.aloadN X38.here hx rfl (hb hby d5_46) rfl rfl k) ?_
  obtain ⟨v39, T39, L39, X39, hQ39, st39⟩ := own_callF (xi := (⟨"java/util/List", "size", "()I"⟩ : MethodName)) (y := (⟨"java/util/ArrayList", "size", "()I"⟩ : MethodName)) X38 hx hZ hown (ow36 hw) (ow37 hw) (ow38 hw) (ow39 hw) (ow40 hw) (ow41 hw) (ow42 hw) (ow43 hw) (ow3 hw) (ow44 hw) (by decide) (rm_alsize l Z a0 hw oDE oDV [] a3 (2 : Int32) h38 O0 (fp10.keep K0 (ninS ne1 nin0))) 1 0 0 (by show _ ≤ 7; omega) (by show _ ≤ 12; omega) e38 (fp9.keep K0) (g := (mkF m 47 #[rv a1, iv p2, rv a3, iv p4, iv p5, iv p6, .unset, .unset, .unset, .unset] [(.ref a3), (.ref a1)])) rfl (by rw [hml]; rfl) [] [(.ref a1)] (lenOf own_pd_9 rfl) rfl rfl (hb hby d5_47)
  obtain ⟨rfl, Nc41, Kc40⟩ := hQ39
  refine own_go st39 ?_
  clear st39 X38 e38
  replace N0 := Fr.app N0 Nc41
  clear Nc41
  obtain ⟨T42, h42, k42, X42, e42, E42, A42, B42, O42, st42⟩ := newRA X39 hx hZ hown (ty := .int) (by decide) (ow54 hw) (ow55 hw) Kc40 (g := (mkF m 52 #[rv a1, iv p2, rv a3, iv p4, iv p5, iv p6, .unset, .unset, .unset, .unset] [(.int (2 : Int32)), (.ref a1)])) rfl (hb hby d5_52) rfl (by decide) (cap := 2) (by decide) (by decide) (by show _ ≤ 7; omega) (by show _ ≤ 12; omega) (ad := "[[I") (by decide)
  obtain ⟨b42, g42⟩ : ∃ z, z = h38.size := ⟨_, rfl⟩
  rw [← g42] at A42 B42 st42
  refine own_go st42 ?_
  clear st42 X39 Kc40
  have ge42 := Nat.le_of_eq g42.symm
  have ne43 : a1 ≠ b42 := Nat.ne_of_lt (Nat.lt_of_lt_of_le fp0.lt ge42)
  have ne44 : b12 ≠ b42 := Nat.ne_of_lt (Nat.lt_of_lt_of_le B12.lt ge42)
  have ne45 : b21 ≠ b42 := Nat.ne_of_lt (Nat.lt_of_lt_of_le B21.lt ge42)
  have ne46 : b31 ≠ b42 := Nat.ne_of_lt (Nat.lt_of_lt_of_le B31.lt ge42)
  have big47 : Z.heap.size ≤ b42 := Nat.le_trans O0.1 ge42
  have sz48 : h0.size ≤ b42 := Nat.le_trans K0.1 ge42
  replace fp0 := fp0.ext E42
  replace fp1 := fp1.ext E42
  replace fp2 := fp2.ext E42
  replace fp3 := fp3.ext E42
  replace fp4 := fp4.ext E42
  replace fp5 := fp5.ext E42
  replace fp6 := fp6.ext E42
  replace fp7 := fp7.ext E42
  replace fp8 := fp8.ext E42
  replace B12 := B12.ext E42
  replace f16 := f16.ext E42
  replace B21 := B21.ext E42
  replace f26 := f26.ext E42
  replace B31 := B31.ext E42
  replace f37 := f37.ext E42
  replace O0 := own_oldExt O0 E42
  replace K0 := K0.ext E42
  clear E42
  have f49 : Arv Z h42 b42 k42 (.array .int) (2 : Int32) [.null, .null] .null := (Arv.new A42 (by decide)).pad (pad_rep [] .null 2)
  obtain ⟨T50, h50, X50, e50, W50, st50⟩ := putF X42 hx hZ hown (host := "") (Or.inl (ow56 hw)) Via.refl e42 fp5 fp0 (Or.inr ⟨(ow57 hw), rfl, hnm⟩) (ow28 hw) (ty := (.array (.array .int))) own_fd6 rfl rfl (g := (mkF m 55 #[rv a1, iv p2, rv a3, iv p4, iv p5, iv p6, .unset, .unset, .unset, .unset] [(.ref b42), (.ref a1)])) rfl rfl (hb hby d5_55)
  refine own_go st50 ?_
  clear st50 X42 e42
  replace N0 := Fr.snoc X50 N0 big_a1
  replace fp0 := fp0.wr W50
  replace fp1 := fp1.other W50 (.inr (own_sn48 hw).symm)
  replace fp2 := fp2.other W50 (.inr (own_sn54 hw).symm)
  replace fp3 := fp3.other W50 (.inr (own_sn59 hw).symm)
  replace fp4 := fp4.other W50 (.inr (own_sn63 hw).symm)
  replace fp5 := fp5.same W50
  replace fp6 := fp6.other W50 (.inr (own_sn67 hw))
  replace fp7 := fp7.other W50 (.inr (own_sn68 hw))
  replace fp8 := fp8.other W50 (.inr (own_sn69 hw))
  replace B12 := B12.wr W50
  replace f16 := f16.other W50 ne13.symm
  replace B21 := B21.wr W50
  replace f26 := f26.other W50 ne22.symm
  replace B31 := B31.wr W50
  replace f37 := f37.other W50 ne32.symm
  replace B42 := B42.wr W50
  replace f49 := f49.other W50 ne43.symm
  replace O0 := own_oldWr O0 W50 big_a1
  replace K0 := K0.wr W50 (Or.inl (List.mem_of_getElem? (i := 0) rfl))
  clear W50
  refine own_go (fun _ k => XS.aloadN X50.here hx rfl (hb hby d5_58) rfl rfl k) ?_
  obtain ⟨v51, T51, L51, X51, hQ51, st51⟩ := own_callF (xi := (⟨"java/util/List", "iterator", "()Ljava/util/Iterator;"⟩ : MethodName)) (y := (⟨"java/util/ArrayList", "iterator", "()Ljava/util/Iterator;"⟩ : MethodName)) X50 hx hZ hown (ow58 hw) (ow59 hw) (ow60 hw) (ow61 hw) (ow62 hw) (ow63 hw) (ow64 hw) (ow43 hw) (ow3 hw) (ow65 hw) (by decide) (rm_aliter l Z a0 hw oDE oDV [] a3 mc h50 O0 (fp9.keep K0) (fp12.keep K0 (ninS ne1 nin0))) 0 1 4 (by show _ ≤ 7; omega) (by show _ ≤ 12; omega) e50 (fp9.keep K0) (g := (mkF m 59 #[rv a1, iv p2, rv a3, iv p4, iv p5, iv p6, .unset, .unset, .unset, .unset] [(.ref a3)])) rfl (by rw [hml]; rfl) [] [] (lenOf own_pd_10 rfl) rfl rfl (hb hby d5_59)
  obtain ⟨w52, rfl, Nc60, Kc59, hb53, f54, f55, f56, f57, f58⟩ := hQ51
  refine own_go st51 ?_
  clear st51 X50 e50
  replace N0 := Fr.app N0 Nc60
  clear Nc60
  have ne61 : a1 ≠ w52 := Nat.ne_of_lt (Nat.lt_of_lt_of_le fp0.lt hb53)
  have ne62 : b12 ≠ w52 := Nat.ne_of_lt (Nat.lt_of_lt_of_le B12.lt hb53)
  have ne63 : b21 ≠ w52 := Nat.ne_of_lt (Nat.lt_of_lt_of_le B21.lt hb53)
  have ne64 : b31 ≠ w52 := Nat.ne_of_lt (Nat.lt_of_lt_of_le B31.lt hb53)
  have ne65 : b42 ≠ w52 := Nat.ne_of_lt (Nat.lt_of_lt_of_le B42.lt hb53)
  have big66 : Z.heap.size ≤ w52 := Nat.le_trans O0.1 hb53
  have sz67 : h0.size ≤ w52 := Nat.le_trans K0.1 hb53
  replace fp0 := fp0.keep Kc59
  replace fp1 := fp1.keep Kc59 nin0
  replace fp2 := fp2.keep Kc59 nin0
  replace fp3 := fp3.keep Kc59 nin0
  replace fp4 := fp4.keep Kc59 nin0
  replace fp5 := fp5.keep Kc59 nin0
  replace fp6 := fp6.keep Kc59 nin0
  replace fp7 := fp7.keep Kc59 nin0
  replace fp8 := fp8.keep Kc59 nin0
  replace B12 := B12.keep Kc59
  replace f16 := f16.keep Kc59 nin0
  replace B21 := B21.keep Kc59
  replace f26 := f26.keep Kc59 nin0
  replace B31 := B31.keep Kc59
  replace f37 := f37.keep Kc59 nin0
  replace B42 := B42.keep Kc59
  replace f49 := f49.keep Kc59 nin0
  replace O0 := own_oldKeep O0 Kc59 all0
  replace K0 := K0.trans Kc59 all0
  clear Kc59
  refine own_go (fun _ k => XS.astore X51.here hx rfl (hb hby d5_64) rfl rfl (l' := #[rv a1, iv p2, rv a3, iv p4, iv p5, iv p6, rv w52, .unset, .unset, .unset]) rfl k) ?_
  show own_Go p e below s _ _ _ (T51.setTop (mkF m 66 #[rv a1, iv p2, rv a3, iv p4, iv p5, iv p6, rv w52, .unset, .unset, .unset] []))
  refine own_go (fun _ k => XS.aload X51.here hx rfl (hb hby d5_66) rfl rfl k) ?_
  obtain ⟨v68, T68, L68, X68, hQ68, st68⟩ := own_callF (xi := (⟨"java/util/Iterator", "hasNext", "()Z"⟩ : MethodName)) (y := (⟨"java/util/ArrayList$Itr", "hasNext", "()Z"⟩ : MethodName)) X51 hx hZ hown (ow82 hw) (ow83 hw) (ow84 hw) (ow85 hw) (ow86 hw) (ow87 hw) (ow88 hw) (ow89 hw) (ow68 hw) (ow90 hw) (by decide) (rm_hn_2_0 l Z a0 hw oDE oDV [] w52 a3 T51.heap O0 f55 f56 (fp10.keep K0 (ninS ne1 nin0))) 0 0 0 (by show _ ≤ 7; omega) (by show _ ≤ 12; omega) (rfl : T51.heap = T51.heap) f54 (g := (mkF m 68 #[rv a1, iv p2, rv a3, iv p4, iv p5, iv p6, rv w52, .unset, .unset, .unset] [(.ref w52)])) rfl (by rw [hml]; rfl) [] [] (lenOf own_pd_11 rfl) rfl rfl (hb hby d5_68)
  obtain ⟨rfl, Nc70, Kc69⟩ := hQ68
  refine own_go st68 ?_
  clear st68 X51
  replace N0 := Fr.app N0 Nc70
  clear Nc70
  refine own_go (fun _ k => XS.ifNo X68.here hx rfl (hb hby d5_73) rfl ((if0 _ _).trans (feq (by decide : ¬ ((1 : Int32) = (0 : Int32)))).1) k) ?_
  refine own_go (fun _ k => XS.aload X68.here hx rfl (hb hby d5_76) rfl rfl k) ?_
  obtain ⟨v71, T71, L71, X71, hQ71, st71⟩ := own_callF (xi := (⟨"java/util/Iterator", "next", "()Ljava/lang/Object;"⟩ : MethodName)) (y := (⟨"java/util/ArrayList$Itr", "next", "()Ljava/lang/Object;"⟩ : MethodName)) X68 hx hZ hown (ow176 hw) (ow177 hw) (ow178 hw) (ow179 hw) (ow180 hw) (ow181 hw) (ow182 hw) (ow89 hw) (ow68 hw) (ow183 hw) (by decide) (rm_nx_2_0 l Z a0 hw oDE oDV [] w52 a3 mc (-1 : Int32) b k el1 el2 T51.heap O0 f54 f55 f56 f57 f58 (fp9.keep K0) (fp10.keep K0 (ninS ne1 nin0)) (fp11.keep K0 (ninS ne1 nin0)) (fp12.keep K0 (ninS ne1 nin0)) (fp13.keep K0 (ninS ne2 nin0)) big66) 0 0 0 (by show _ ≤ 7; omega) (by show _ ≤ 12; omega) Kc69 f54 (g := (mkF m 78 #[rv a1, iv p2, rv a3, iv p4, iv p5, iv p6, rv w52, .unset, .unset, .unset] [(.ref w52)])) rfl (by rw [hml]; rfl) [] [] (lenOf own_pd_12 rfl) rfl rfl (hb hby d5_78)
  obtain ⟨rfl, Nc78, Kc77, f72, f73, f74, f75, f76⟩ := hQ71
  refine own_go st71 ?_
  clear st71 X68 Kc69
  replace N0 := Fr.app N0 Nc78
  clear Nc78
  replace fp0 := fp0.keep Kc77
  replace fp1 := fp1.keep Kc77 (ninS ne61 nin0)
  replace fp2 := fp2.keep Kc77 (ninS ne61 nin0)
  replace fp3 := fp3.keep Kc77 (ninS ne61 nin0)
  replace fp4 := fp4.keep Kc77 (ninS ne61 nin0)
  replace fp5 := fp5.keep Kc77 (ninS ne61 nin0)
  replace fp6 := fp6.keep Kc77 (ninS ne61 nin0)
  replace fp7 := fp7.keep Kc77 (ninS ne61 nin0)
  replace fp8 := fp8.keep Kc77 (ninS ne61 nin0)
  replace B12 := B12.keep Kc77
  replace f16 := f16.keep Kc77 (ninS ne62 nin0)
  replace B21 := B21.keep Kc77
  replace f26 := f26.keep Kc77 (ninS ne63 nin0)
  replace B31 := B31.keep Kc77
  replace f37 := f37.keep Kc77 (ninS ne64 nin0)
  replace B42 := B42.keep Kc77
  replace f49 := f49.keep Kc77 (ninS ne65 nin0)
  replace f54 := f54.keep Kc77
  clear f55
  clear f56
  clear f57
  clear f58
  replace O0 := own_oldKeep O0 Kc77 (allS big66 all0)
  replace K0 := K0.trans Kc77 (allS (Or.inr sz67) all0)
  clear Kc77
  obtain ⟨T79, X79, e79, st79⟩ := castY X71 hx hZ hown (ow190 hw) (rfl : T71.heap = T71.heap) (Ins.self (fp14.keep K0)) (g := (mkF m 83 #[rv a1, iv p2, rv a3, iv p4, iv p5, iv p6, rv w52, .unset, .unset, .unset] [(.ref el1)])) rfl rfl (hb hby d5_83)
  refine own_go st79 ?_
  clear st79 X71
  refine own_go (fun _ k => XS.astore X79.here hx rfl (hb hby d5_86) rfl rfl (l' := #[rv a1, iv p2, rv a3, iv p4, iv p5, iv p6, rv w52, rv el1, .unset, .unset]) rfl k) ?_
  show own_Go p e below s _ _ _ (T79.setTop (mkF m 88 #[rv a1, iv p2, rv a3, iv p4, iv p5, iv p6, rv w52, rv el1, .unset, .unset] []))
  refine own_go (fun _ k => XS.aloadN X79.here hx rfl (hb hby d5_88) rfl rfl k) ?_
  obtain ⟨T80, X80, e80, st80⟩ := getF X79 hx hZ hown (host := "") (Or.inl (ow48 hw)) Via.refl e79 fp2 (g := (mkF m 89 #[rv a1, iv p2, rv a3, iv p4, iv p5, iv p6, rv w52, rv el1, .unset, .unset] [(.ref a1)])) rfl rfl (hb hby d5_89)
  refine own_go st80 ?_
  clear st80 X79 e79
  refine own_go (fun _ k => XS.aload X80.here hx rfl (hb hby d5_92) rfl rfl k) ?_
  obtain ⟨v81, T81, L81, X81, hQ81, st81⟩ := own_callV (y := (⟨"com/example/nudo/nudo/Vehicle", "trip", "()I"⟩ : MethodName)) (z := (⟨"com/example/nudo/nudo/Vehicle", "trip", "()I"⟩ : MethodName)) X80 hx hZ hown (ow192 hw) (ow193 hw) (notFace_of_selects (args := #[]) (mvT hZ (ow195 hw))) (ow195 hw) (ow194 hw) (ow111 hw) (ow196 hw) (rm_vtrip l Z a0 hw oDE oDV [] el1 (0 : Int32) T71.heap O0 (fp17.keep K0 (ninS ne3 nin0))) 1 0 0 (by show _ ≤ 7; omega) (by show _ ≤ 12; omega) e80 (fp14.keep K0) (g := (mkF m 94 #[rv a1, iv p2, rv a3, iv p4, iv p5, iv p6, rv w52, rv el1, .unset, .unset] [(.ref el1), (.ref b12)])) rfl (by rw [hml]; rfl) [] [(.ref b12)] (lenOf own_pd_9 rfl) rfl rfl (hb hby d5_94)
  obtain ⟨rfl, Nc83, Kc82⟩ := hQ81
  refine own_go st81 ?_
  clear st81 X80 e80
  replace N0 := Fr.app N0 Nc83
  clear Nc83
  refine own_go (fun _ k => XS.aload X81.here hx rfl (hb hby d5_97) rfl rfl k) ?_
  obtain ⟨v84, T84, L84, X84, hQ84, st84⟩ := own_callV (y := (⟨"com/example/nudo/nudo/Vehicle", "departureStep", "()I"⟩ : MethodName)) (z := (⟨"com/example/nudo/nudo/Vehicle", "departureStep", "()I"⟩ : MethodName)) X81 hx hZ hown (ow197 hw) (ow198 hw) (notFace_of_selects (args := #[]) (mvT hZ (ow200 hw))) (ow200 hw) (ow199 hw) (ow111 hw) (ow201 hw) (rm_vdepartureStep l Z a0 hw oDE oDV [] el1 d0 T71.heap O0 (fp19.keep K0 (ninS ne3 nin0))) 2 0 0 (by show _ ≤ 7; omega) (by show _ ≤ 12; omega) Kc82 (fp14.keep K0) (g := (mkF m 99 #[rv a1, iv p2, rv a3, iv p4, iv p5, iv p6, rv w52, rv el1, .unset, .unset] [(.ref el1), (.int (0 : Int32)), (.ref b12)])) rfl (by rw [hml]; rfl) [] [(.int (0 : Int32)), (.ref b12)] (lenOf own_pd_9 rfl) rfl rfl (hb hby d5_99)
  obtain ⟨rfl, Nc86, Kc85⟩ := hQ84
  refine own_go st84 ?_
  clear st84 X81 Kc82
  replace N0 := Fr.app N0 Nc86
  clear Nc86
  obtain ⟨cl87, Ar87, q87, S87, M87, P87, G87⟩ := id f16
  have hin87 : ¬ ((0 : Int32) < 0 ∨ cl87.slots.size ≤ ((0 : Int32)).toNatClampNeg) := inb_of S87 ⟨by decide, by decide⟩
  obtain ⟨T88, h88, X88, e88, W88, st88⟩ := stI X84 hx hZ Kc85 Ar87 (j := (0 : Int32)) hin87 (g := (mkF m 102 #[rv a1, iv p2, rv a3, iv p4, iv p5, iv p6, rv w52, rv el1, .unset, .unset] [(.int d0), (.int (0 : Int32)), (.ref b12)])) rfl rfl (hb hby d5_102)
  refine own_go st88 ?_
  clear st88 X84 Kc85
  have f89 : Arv Z h88 b12 k12 .int (2 : Int32) [(.int d0), (.int (0 : Int32))] (.int (0 : Int32)) := Arv.set Ar87 q87 S87 M87 P87 G87 rfl W88 0 rfl (Nat.le_of_ble_eq_true rfl)
  replace N0 := Fr.snoc X88 N0 big14
  replace fp0 := fp0.wr W88
  replace fp1 := fp1.other W88 (Or.inl ne13)
  replace fp2 := fp2.other W88 (Or.inl ne13)
  replace fp3 := fp3.other W88 (Or.inl ne13)
  replace fp4 := fp4.other W88 (Or.inl ne13)
  replace fp5 := fp5.other W88 (Or.inl ne13)
  replace fp6 := fp6.other W88 (Or.inl ne13)
  replace fp7 := fp7.other W88 (Or.inl ne13)
  replace fp8 := fp8.other W88 (Or.inl ne13)
  replace B12 := B12.wr W88
  clear f16
  replace B21 := B21.wr W88
  replace f26 := f26.other W88 ne23.symm
  replace B31 := B31.wr W88
  replace f37 := f37.other W88 ne33.symm
  replace B42 := B42.wr W88
  replace f49 := f49.other W88 ne44.symm
  replace f72 := f72.wr W88
  replace f73 := f73.other W88 (Or.inl ne62.symm)
  replace f74 := f74.other W88 (Or.inl ne62.symm)
  replace f75 := f75.other W88 (Or.inl ne62.symm)
  replace f76 := f76.other W88 (Or.inl ne62.symm)
  replace O0 := own_oldWr O0 W88 big14
  replace K0 := K0.wr W88 (Or.inr sz15)
  clear W88
  clear Ar87 q87 S87 M87 P87 G87 hin87
  show own_Go p e below s _ _ _ (T88.setTop (mkF m 103 #[rv a1, iv p2, rv a3, iv p4, iv p5, iv p6, rv w52, rv el1, .unset, .unset] []))
  refine own_go (fun _ k => XS.aloadN X88.here hx rfl (hb hby d5_103) rfl rfl k) ?_
  obtain ⟨T90, X90, e90, st90⟩ := getF X88 hx hZ hown (host := "") (Or.inl (ow50 hw)) Via.refl e88 fp3 (g := (mkF m 104 #[rv a1, iv p2, rv a3, iv p4, iv p5, iv p6, rv w52, rv el1, .unset, .unset] [(.ref a1)])) rfl rfl (hb hby d5_104)
  refine own_go st90 ?_
  clear st90 X88 e88
  refine own_go (fun _ k => XS.aload X90.here hx rfl (hb hby d5_107) rfl rfl k) ?_
  obtain ⟨v91, T91, L91, X91, hQ91, st91⟩ := own_callV (y := (⟨"com/example/nudo/nudo/Vehicle", "trip", "()I"⟩ : MethodName)) (z := (⟨"com/example/nudo/nudo/Vehicle", "trip", "()I"⟩ : MethodName)) X90 hx hZ hown (ow192 hw) (ow193 hw) (notFace_of_selects (args := #[]) (mvT hZ (ow195 hw))) (ow195 hw) (ow194 hw) (ow111 hw) (ow196 hw) (rm_vtrip l Z a0 hw oDE oDV [] el1 (0 : Int32) h88 O0 (fp17.keep K0 (ninS ne3 nin0))) 1 0 0 (by show _ ≤ 7; omega) (by show _ ≤ 12; omega) e90 (fp14.keep K0) (g := (mkF m 109 #[rv a1, iv p2, rv a3, iv p4, iv p5, iv p6, rv w52, rv el1, .unset, .unset] [(.ref el1), (.ref b21)])) rfl (by rw [hml]; rfl) [] [(.ref b21)] (lenOf own_pd_9 rfl) rfl rfl (hb hby d5_109)
  obtain ⟨rfl, Nc93, Kc92⟩ := hQ91
  refine own_go st91 ?_
  clear st91 X90 e90
  replace N0 := Fr.app N0 Nc93
  clear Nc93
  refine own_go (fun _ k => XS.aload X91.here hx rfl (hb hby d5_112) rfl rfl k) ?_
  obtain ⟨v94, T94, L94, X94, hQ94, st94⟩ := own_callV (y := (⟨"com/example/nudo/nudo/Vehicle", "exitStep", "()I"⟩ : MethodName)) (z := (⟨"com/example/nudo/nudo/Vehicle", "exitStep", "()I"⟩ : MethodName)) X91 hx hZ hown (ow202 hw) (ow203 hw) (notFace_of_selects (args := #[]) (mvT hZ (ow205 hw))) (ow205 hw) (ow204 hw) (ow111 hw) (ow206 hw) (rm_vexitStep l Z a0 hw oDE oDV [] el1 x0 h88 O0 (fp16.keep K0 (ninS ne3 nin0))) 2 0 0 (by show _ ≤ 7; omega) (by show _ ≤ 12; omega) Kc92 (fp14.keep K0) (g := (mkF m 114 #[rv a1, iv p2, rv a3, iv p4, iv p5, iv p6, rv w52, rv el1, .unset, .unset] [(.ref el1), (.int (0 : Int32)), (.ref b21)])) rfl (by rw [hml]; rfl) [] [(.int (0 : Int32)), (.ref b21)] (lenOf own_pd_9 rfl) rfl rfl (hb hby d5_114)
  obtain ⟨rfl, Nc96, Kc95⟩ := hQ94
  refine own_go st94 ?_
  clear st94 X91 Kc92
  replace N0 := Fr.app N0 Nc96
  clear Nc96
  obtain ⟨cl97, Ar97, q97, S97, M97, P97, G97⟩ := id f26
  have hin97 : ¬ ((0 : Int32) < 0 ∨ cl97.slots.size ≤ ((0 : Int32)).toNatClampNeg) := inb_of S97 ⟨by decide, by decide⟩
  obtain ⟨T98, h98, X98, e98, W98, st98⟩ := stI X94 hx hZ Kc95 Ar97 (j := (0 : Int32)) hin97 (g := (mkF m 117 #[rv a1, iv p2, rv a3, iv p4, iv p5, iv p6, rv w52, rv el1, .unset, .unset] [(.int x0), (.int (0 : Int32)), (.ref b21)])) rfl rfl (hb hby d5_117)
  refine own_go st98 ?_
  clear st98 X94 Kc95
  have f99 : Arv Z h98 b21 k21 .int (2 : Int32) [(.int x0), (.int (0 : Int32))] (.int (0 : Int32)) := Arv.set Ar97 q97 S97 M97 P97 G97 rfl W98 0 rfl (Nat.le_of_ble_eq_true rfl)
  replace N0 := Fr.snoc X98 N0 big24
  replace fp0 := fp0.wr W98
  replace fp1 := fp1.other W98 (Or.inl ne22)
  replace fp2 := fp2.other W98 (Or.inl ne22)
  replace fp3 := fp3.other W98 (Or.inl ne22)
  replace fp4 := fp4.other W98 (Or.inl ne22)
  replace fp5 := fp5.other W98 (Or.inl ne22)
  replace fp6 := fp6.other W98 (Or.inl ne22)
  replace fp7 := fp7.other W98 (Or.inl ne22)
  replace fp8 := fp8.other W98 (Or.inl ne22)
  replace B12 := B12.wr W98
  replace B21 := B21.wr W98
  clear f26
  replace B31 := B31.wr W98
  replace f37 := f37.other W98 ne34.symm
  replace B42 := B42.wr W98
  replace f49 := f49.other W98 ne45.symm
  replace f72 := f72.wr W98
  replace f73 := f73.other W98 (Or.inl ne63.symm)
  replace f74 := f74.other W98 (Or.inl ne63.symm)
  replace f75 := f75.other W98 (Or.inl ne63.symm)
  replace f76 := f76.other W98 (Or.inl ne63.symm)
  replace f89 := f89.other W98 ne23
  replace O0 := own_oldWr O0 W98 big24
  replace K0 := K0.wr W98 (Or.inr sz25)
  clear W98
  clear Ar97 q97 S97 M97 P97 G97 hin97
  show own_Go p e below s _ _ _ (T98.setTop (mkF m 118 #[rv a1, iv p2, rv a3, iv p4, iv p5, iv p6, rv w52, rv el1, .unset, .unset] []))
  refine own_go (fun _ k => XS.aloadN X98.here hx rfl (hb hby d5_118) rfl rfl k) ?_
  obtain ⟨T100, X100, e100, st100⟩ := getF X98 hx hZ hown (host := "") (Or.inl (ow52 hw)) Via.refl e98 fp4 (g := (mkF m 119 #[rv a1, iv p2, rv a3, iv p4, iv p5, iv p6, rv w52, rv el1, .unset, .unset] [(.ref a1)])) rfl rfl (hb hby d5_119)
  refine own_go st100 ?_
  clear st100 X98 e98
  refine own_go (fun _ k => XS.aload X100.here hx rfl (hb hby d5_122) rfl rfl k) ?_
  obtain ⟨v101, T101, L101, X101, hQ101, st101⟩ := own_callV (y := (⟨"com/example/nudo/nudo/Vehicle", "trip", "()I"⟩ : MethodName)) (z := (⟨"com/example/nudo/nudo/Vehicle", "trip", "()I"⟩ : MethodName)) X100 hx hZ hown (ow192 hw) (ow193 hw) (notFace_of_selects (args := #[]) (mvT hZ (ow195 hw))) (ow195 hw) (ow194 hw) (ow111 hw) (ow196 hw) (rm_vtrip l Z a0 hw oDE oDV [] el1 (0 : Int32) h98 O0 (fp17.keep K0 (ninS ne3 nin0))) 1 0 0 (by show _ ≤ 7; omega) (by show _ ≤ 12; omega) e100 (fp14.keep K0) (g := (mkF m 124 #[rv a1, iv p2, rv a3, iv p4, iv p5, iv p6, rv w52, rv el1, .unset, .unset] [(.ref el1), (.ref b31)])) rfl (by rw [hml]; rfl) [] [(.ref b31)] (lenOf own_pd_9 rfl) rfl rfl (hb hby d5_124)
  obtain ⟨rfl, Nc103, Kc102⟩ := hQ101
  refine own_go st101 ?_
  clear st101 X100 e100
  replace N0 := Fr.app N0 Nc103
  clear Nc103
  refine own_go (fun _ k => XS.aload X101.here hx rfl (hb hby d5_127) rfl rfl k) ?_
  obtain ⟨v104, T104, L104, X104, hQ104, st104⟩ := own_callV (y := (⟨"com/example/nudo/nudo/Vehicle", "pathCells", "()I"⟩ : MethodName)) (z := (⟨"com/example/nudo/nudo/Vehicle", "pathCells", "()I"⟩ : MethodName)) X101 hx hZ hown (ow207 hw) (ow208 hw) (notFace_of_selects (args := #[]) (mvT hZ (ow210 hw))) (ow210 hw) (ow209 hw) (ow111 hw) (ow211 hw) (rm_vpc l Z a0 hw oDE oDV [] el1 pa0 kp0 h98 O0 (fp18.keep K0 (ninS ne3 nin0)) (fp20.keep K0 (ninS ne4 nin0))) 2 0 0 (by show _ ≤ 7; omega) (by show _ ≤ 12; omega) Kc102 (fp14.keep K0) (g := (mkF m 129 #[rv a1, iv p2, rv a3, iv p4, iv p5, iv p6, rv w52, rv el1, .unset, .unset] [(.ref el1), (.int (0 : Int32)), (.ref b31)])) rfl (by rw [hml]; rfl) [] [(.int (0 : Int32)), (.ref b31)] (lenOf own_pd_9 rfl) rfl rfl (hb hby d5_129)
  obtain ⟨rfl, Nc106, Kc105⟩ := hQ104
  refine own_go st104 ?_
  clear st104 X101 Kc102
  replace N0 := Fr.app N0 Nc106
  clear Nc106
  obtain ⟨cl107, Ar107, q107, S107, M107, P107, G107⟩ := id f37
  have hin107 : ¬ ((0 : Int32) < 0 ∨ cl107.slots.size ≤ ((0 : Int32)).toNatClampNeg) := inb_of S107 ⟨by decide, by decide⟩
  obtain ⟨T108, h108, X108, e108, W108, st108⟩ := stI X104 hx hZ Kc105 Ar107 (j := (0 : Int32)) hin107 (g := (mkF m 132 #[rv a1, iv p2, rv a3, iv p4, iv p5, iv p6, rv w52, rv el1, .unset, .unset] [(.int (0 : Int32)), (.int (0 : Int32)), (.ref b31)])) rfl rfl (hb hby d5_132)
  refine own_go st108 ?_
  clear st108 X104 Kc105
  have f109 : Arv Z h108 b31 k31 .int (2 : Int32) [(.int (0 : Int32)), (.int (0 : Int32))] (.int (0 : Int32)) := Arv.set Ar107 q107 S107 M107 P107 G107 rfl W108 0 rfl (Nat.le_of_ble_eq_true rfl)
  replace N0 := Fr.snoc X108 N0 big35
  replace fp0 := fp0.wr W108
  replace fp1 := fp1.other W108 (Or.inl ne32)
  replace fp2 := fp2.other W108 (Or.inl ne32)
  replace fp3 := fp3.other W108 (Or.inl ne32)
  replace fp4 := fp4.other W108 (Or.inl ne32)
  replace fp5 := fp5.other W108 (Or.inl ne32)
  replace fp6 := fp6.other W108 (Or.inl ne32)
  replace fp7 := fp7.other W108 (Or.inl ne32)
  replace fp8 := fp8.other W108 (Or.inl ne32)
  replace B12 := B12.wr W108
  replace B21 := B21.wr W108
  replace B31 := B31.wr W108
  clear f37
  replace B42 := B42.wr W108
  replace f49 := f49.other W108 ne46.symm
  replace f72 := f72.wr W108
  replace f73 := f73.other W108 (Or.inl ne64.symm)
  replace f74 := f74.other W108 (Or.inl ne64.symm)
  replace f75 := f75.other W108 (Or.inl ne64.symm)
  replace f76 := f76.other W108 (Or.inl ne64.symm)
  replace f89 := f89.other W108 ne33
  replace f99 := f99.other W108 ne34
  replace O0 := own_oldWr O0 W108 big35
  replace K0 := K0.wr W108 (Or.inr sz36)
  clear W108
  clear Ar107 q107 S107 M107 P107 G107 hin107
  show own_Go p e below s _ _ _ (T108.setTop (mkF m 133 #[rv a1, iv p2, rv a3, iv p4, iv p5, iv p6, rv w52, rv el1, .unset, .unset] []))
  refine own_go (fun _ k => XS.aload X108.here hx rfl (hb hby d5_133) rfl rfl k) ?_
  obtain ⟨v110, T110, L110, X110, hQ110, st110⟩ := own_callV (y := (⟨"com/example/nudo/nudo/Vehicle", "linksEntered", "()I"⟩ : MethodName)) (z := (⟨"com/example/nudo/nudo/Vehicle", "linksEntered", "()I"⟩ : MethodName)) X108 hx hZ hown (ow212 hw) (ow213 hw) (notFace_of_selects (args := #[]) (mvT hZ (ow215 hw))) (ow215 hw) (ow214 hw) (ow111 hw) (ow216 hw) (rm_vle l Z a0 hw oDE oDV [] el1 h108 O0 (fp15.keep K0 (ninS ne3 nin0))) 0 0 0 (by show _ ≤ 7; omega) (by show _ ≤ 12; omega) e108 (fp14.keep K0) (g := (mkF m 135 #[rv a1, iv p2, rv a3, iv p4, iv p5, iv p6, rv w52, rv el1, .unset, .unset] [(.ref el1)])) rfl (by rw [hml]; rfl) [] [] (lenOf own_pd_9 rfl) rfl rfl (hb hby d5_135)
  obtain ⟨rfl, Nc112, Kc111⟩ := hQ110
  refine own_go st110 ?_
  clear st110 X108 e108
  replace N0 := Fr.app N0 Nc112
  clear Nc112
  obtain ⟨T113, h113, k113, X113, e113, E113, A113, B113, st113⟩ := newPE (aty := .int) X110 hx hZ (ow47 hw) Kc111 (g := (mkF m 138 #[rv a1, iv p2, rv a3, iv p4, iv p5, iv p6, rv w52, rv el1, .unset, .unset] [(.int (0 : Int32))])) rfl (hb hby d5_138) rfl (by decide) (cap := 0) (by decide) (by decide) (by show _ ≤ 7; omega) (by show _ ≤ 12; omega) (ad := "[I") (by decide)
  obtain ⟨b113, g113⟩ : ∃ z, z = h108.size := ⟨_, rfl⟩
  rw [← g113] at A113 B113 st113
  refine own_go st113 ?_
  clear st113 X110 Kc111
  have ge113 := Nat.le_of_eq g113.symm
  have ne114 : a1 ≠ b113 := Nat.ne_of_lt (Nat.lt_of_lt_of_le fp0.lt ge113)
  have ne115 : b12 ≠ b113 := Nat.ne_of_lt (Nat.lt_of_lt_of_le B12.lt ge113)
  have ne116 : b21 ≠ b113 := Nat.ne_of_lt (Nat.lt_of_lt_of_le B21.lt ge113)
  have ne117 : b31 ≠ b113 := Nat.ne_of_lt (Nat.lt_of_lt_of_le B31.lt ge113)
  have ne118 : b42 ≠ b113 := Nat.ne_of_lt (Nat.lt_of_lt_of_le B42.lt ge113)
  have ne119 : w52 ≠ b113 := Nat.ne_of_lt (Nat.lt_of_lt_of_le f72.lt ge113)
  have big120 : Z.heap.size ≤ b113 := Nat.le_trans O0.1 ge113
  have sz121 : h0.size ≤ b113 := Nat.le_trans K0.1 ge113
  replace fp0 := fp0.ext E113
  replace fp1 := fp1.ext E113
  replace fp2 := fp2.ext E113
  replace fp3 := fp3.ext E113
  replace fp4 := fp4.ext E113
  replace fp5 := fp5.ext E113
  replace fp6 := fp6.ext E113
  replace fp7 := fp7.ext E113
  replace fp8 := fp8.ext E113
  replace B12 := B12.ext E113
  replace B21 := B21.ext E113
  replace B31 := B31.ext E113
  replace B42 := B42.ext E113
  replace f49 := f49.ext E113
  replace f72 := f72.ext E113
  replace f73 := f73.ext E113
  replace f74 := f74.ext E113
  replace f75 := f75.ext E113
  replace f76 := f76.ext E113
  replace f89 := f89.ext E113
  replace f99 := f99.ext E113
  replace f109 := f109.ext E113
  replace O0 := own_oldExt O0 E113
  replace K0 := K0.ext E113
  clear E113
  have f122 : Arv Z h113 b113 k113 .int (0 : Int32) [] (.int (0 : Int32)) := (Arv.new A113 (by decide)).pad (pad_rep [] (.int (0 : Int32)) 0)
  refine own_go (fun _ k => XS.astore X113.here hx rfl (hb hby d5_140) rfl rfl (l' := #[rv a1, iv p2, rv a3, iv p4, iv p5, iv p6, rv w52, rv el1, rv b113, .unset]) rfl k) ?_
  refine own_go (fun _ k => XS.iconst X113.here hx rfl (hb hby d5_142) k) ?_
  refine own_go (fun _ k => XS.istore X113.here hx rfl (hb hby d5_143) rfl (l' := #[rv a1, iv p2, rv a3, iv p4, iv p5, iv p6, rv w52, rv el1, rv b113, iv (0 : Int32)]) rfl k) ?_
  refine own_go (fun _ k => XS.iload X113.here hx rfl (hb hby d5_145) rfl k) ?_
  show own_Go p e below s _ _ _ (T113.setTop (mkF m 147 #[rv a1, iv p2, rv a3, iv p4, iv p5, iv p6, rv w52, rv el1, rv b113, iv (0 : Int32)] [(.int (0 : Int32))]))
  refine own_go (fun _ k => XS.aload X113.here hx rfl (hb hby d5_147) rfl rfl k) ?_
  show own_Go p e below s _ _ _ (T113.setTop (mkF m 149 #[rv a1, iv p2, rv a3, iv p4, iv p5, iv p6, rv w52, rv el1, rv b113, iv (0 : Int32)] [(.ref b113), (.int (0 : Int32))]))
  obtain ⟨cl123, Ar123, -, S123, M123, -, -⟩ := id f122
  refine own_go (X113.arraylength hx (by rw [e113]; exact Ar123.1) (State.isArrayOf_alike hZ.alike Ar123.2.1) (g := (mkF m 149 #[rv a1, iv p2, rv a3, iv p4, iv p5, iv p6, rv w52, rv el1, rv b113, iv (0 : Int32)] [(.ref b113), (.int (0 : Int32))])) rfl rfl (hb hby d5_149)) ?_
  rw [len_of S123 M123]
  refine own_go (fun _ k => XS.icmpYes X113.here hx rfl (pc0 := 150) (pc' := 171) rfl (hb hby d5_150) rfl (flt (by decide : ¬ ((0 : Int32) < (0 : Int32)))).2.1 (by decide) (by decide) k) ?_
  refine own_go (fun _ k => XS.aloadN X113.here hx rfl (hb hby d5_171) rfl rfl k) ?_
  obtain ⟨T124, X124, e124, st124⟩ := getF X113 hx hZ hown (host := "") (Or.inl (ow56 hw)) Via.refl e113 fp5 (g := (mkF m 172 #[rv a1, iv p2, rv a3, iv p4, iv p5, iv p6, rv w52, rv el1, rv b113, iv (0 : Int32)] [(.ref a1)])) rfl rfl (hb hby d5_172)
  refine own_go st124 ?_
  clear st124 X113 e113
  refine own_go (fun _ k => XS.aload X124.here hx rfl (hb hby d5_175) rfl rfl k) ?_
  obtain ⟨v125, T125, L125, X125, hQ125, st125⟩ := own_callV (y := (⟨"com/example/nudo/nudo/Vehicle", "trip", "()I"⟩ : MethodName)) (z := (⟨"com/example/nudo/nudo/Vehicle", "trip", "()I"⟩ : MethodName)) X124 hx hZ hown (ow192 hw) (ow193 hw) (notFace_of_selects (args := #[]) (mvT hZ (ow195 hw))) (ow195 hw) (ow194 hw) (ow111 hw) (ow196 hw) (rm_vtrip l Z a0 hw oDE oDV [] el1 (0 : Int32) h113 O0 (fp17.keep K0 (ninS ne3 nin0))) 1 0 0 (by show _ ≤ 7; omega) (by show _ ≤ 12; omega) e124 (fp14.keep K0) (g := (mkF m 177 #[rv a1, iv p2, rv a3, iv p4, iv p5, iv p6, rv w52, rv el1, rv b113, iv (0 : Int32)] [(.ref el1), (.ref b42)])) rfl (by rw [hml]; rfl) [] [(.ref b42)] (lenOf own_pd_9 rfl) rfl rfl (hb hby d5_177)
  obtain ⟨rfl, Nc127, Kc126⟩ := hQ125
  refine own_go st125 ?_
  clear st125 X124 e124
  replace N0 := Fr.app N0 Nc127
  clear Nc127
  refine own_go (fun _ k => XS.aload X125.here hx rfl (hb hby d5_180) rfl rfl k) ?_
  show own_Go p e below s _ _ _ (T125.setTop (mkF m 182 #[rv a1, iv p2, rv a3, iv p4, iv p5, iv p6, rv w52, rv el1, rv b113, iv (0 : Int32)] [(.ref b113), (.int (0 : Int32)), (.ref b42)]))
  obtain ⟨cl128, Ar128, q128, S128, M128, P128, G128⟩ := id f49
  have hin128 : ¬ ((0 : Int32) < 0 ∨ cl128.slots.size ≤ ((0 : Int32)).toNatClampNeg) := inb_of S128 ⟨by decide, by decide⟩
  obtain ⟨T129, h129, X129, e129, W129, st129⟩ := stR X125 hx hZ Kc126 Ar128 (j := (0 : Int32)) hin128 rfl (Sto.ofVA Ar128 q128 O42 (Ins.self B113)) (g := (mkF m 182 #[rv a1, iv p2, rv a3, iv p4, iv p5, iv p6, rv w52, rv el1, rv b113, iv (0 : Int32)] [(.ref b113), (.int (0 : Int32)), (.ref b42)])) rfl rfl (hb hby d5_182)
  refine own_go st129 ?_
  clear st129 X125 Kc126
  have f130 : Arv Z h129 b42 k42 (.array .int) (2 : Int32) [(.ref b113), .null] .null := Arv.set Ar128 q128 S128 M128 P128 G128 rfl W129 0 rfl (Nat.le_of_ble_eq_true rfl)
  replace N0 := Fr.snoc X129 N0 big47
  replace fp0 := fp0.wr W129
  replace fp1 := fp1.other W129 (Or.inl ne43)
  replace fp2 := fp2.other W129 (Or.inl ne43)
  replace fp3 := fp3.other W129 (Or.inl ne43)
  replace fp4 := fp4.other W129 (Or.inl ne43)
  replace fp5 := fp5.other W129 (Or.inl ne43)
  replace fp6 := fp6.other W129 (Or.inl ne43)
  replace fp7 := fp7.other W129 (Or.inl ne43)
  replace fp8 := fp8.other W129 (Or.inl ne43)
  replace B12 := B12.wr W129
  replace B21 := B21.wr W129
  replace B31 := B31.wr W129
  replace B42 := B42.wr W129
  clear f49
  replace f72 := f72.wr W129
  replace f73 := f73.other W129 (Or.inl ne65.symm)
  replace f74 := f74.other W129 (Or.inl ne65.symm)
  replace f75 := f75.other W129 (Or.inl ne65.symm)
  replace f76 := f76.other W129 (Or.inl ne65.symm)
  replace f89 := f89.other W129 ne44
  replace f99 := f99.other W129 ne45
  replace f109 := f109.other W129 ne46
  replace B113 := B113.wr W129
  replace f122 := f122.other W129 ne118.symm
  replace O0 := own_oldWr O0 W129 big47
  replace K0 := K0.wr W129 (Or.inr sz48)
  clear W129
  clear Ar128 q128 S128 M128 P128 G128 hin128
  refine own_go (fun _ k => XS.goto X129.here hx rfl (pc0 := 183) (pc' := 66) rfl (hb hby d5_183) (by decide) (by decide) k) ?_
  refine own_go (fun _ k => XS.aload X129.here hx rfl (hb hby d5_66) rfl rfl k) ?_
  obtain ⟨v131, T131, L131, X131, hQ131, st131⟩ := own_callF (xi := (⟨"java/util/Iterator", "hasNext", "()Z"⟩ : MethodName)) (y := (⟨"java/util/ArrayList$Itr", "hasNext", "()Z"⟩ : MethodName)) X129 hx hZ hown (ow82 hw) (ow83 hw) (ow84 hw) (ow85 hw) (ow86 hw) (ow87 hw) (ow88 hw) (ow89 hw) (ow68 hw) (ow90 hw) (by decide) (rm_hn_2_1 l Z a0 hw oDE oDV [] w52 a3 h129 O0 f73 f74 (fp10.keep K0 (ninS ne1 nin0))) 0 0 0 (by show _ ≤ 7; omega) (by show _ ≤ 12; omega) e129 f72 (g := (mkF m 68 #[rv a1, iv p2, rv a3, iv p4, iv p5, iv p6, rv w52, rv el1, rv b113, iv (0 : Int32)] [(.ref w52)])) rfl (by rw [hml]; rfl) [] [] (lenOf own_pd_11 rfl) rfl rfl (hb hby d5_68)
  obtain ⟨rfl, Nc133, Kc132⟩ := hQ131
  refine own_go st131 ?_
  clear st131 X129 e129
  replace N0 := Fr.app N0 Nc133
  clear Nc133
  refine own_go (fun _ k => XS.ifNo X131.here hx rfl (hb hby d5_73) rfl ((if0 _ _).trans (feq (by decide : ¬ ((1 : Int32) = (0 : Int32)))).1) k) ?_
  refine own_go (fun _ k => XS.aload X131.here hx rfl (hb hby d5_76) rfl rfl k) ?_
  obtain ⟨v134, T134, L134, X134, hQ134, st134⟩ := own_callF (xi := (⟨"java/util/Iterator", "next", "()Ljava/lang/Object;"⟩ : MethodName)) (y := (⟨"java/util/ArrayList$Itr", "next", "()Ljava/lang/Object;"⟩ : MethodName)) X131 hx hZ hown (ow176 hw) (ow177 hw) (ow178 hw) (ow179 hw) (ow180 hw) (ow181 hw) (ow182 hw) (ow89 hw) (ow68 hw) (ow183 hw) (by decide) (rm_nx_2_1 l Z a0 hw oDE oDV [] w52 a3 mc (0 : Int32) b k el1 el2 h129 O0 f72 f73 f74 f75 f76 (fp9.keep K0) (fp10.keep K0 (ninS ne1 nin0)) (fp11.keep K0 (ninS ne1 nin0)) (fp12.keep K0 (ninS ne1 nin0)) (fp13.keep K0 (ninS ne2 nin0)) big66) 0 0 0 (by show _ ≤ 7; omega) (by show _ ≤ 12; omega) Kc132 f72 (g := (mkF m 78 #[rv a1, iv p2, rv a3, iv p4, iv p5, iv p6, rv w52, rv el1, rv b113, iv (0 : Int32)] [(.ref w52)])) rfl (by rw [hml]; rfl) [] [] (lenOf own_pd_12 rfl) rfl rfl (hb hby d5_78)
  obtain ⟨rfl, Nc141, Kc140, f135, f136, f137, f138, f139⟩ := hQ134
  refine own_go st134 ?_
  clear st134 X131 Kc132
  replace N0 := Fr.app N0 Nc141
  clear Nc141
  replace fp0 := fp0.keep Kc140
  replace fp1 := fp1.keep Kc140 (ninS ne61 nin0)
  replace fp2 := fp2.keep Kc140 (ninS ne61 nin0)
  replace fp3 := fp3.keep Kc140 (ninS ne61 nin0)
  replace fp4 := fp4.keep Kc140 (ninS ne61 nin0)
  replace fp5 := fp5.keep Kc140 (ninS ne61 nin0)
  replace fp6 := fp6.keep Kc140 (ninS ne61 nin0)
  replace fp7 := fp7.keep Kc140 (ninS ne61 nin0)
  replace fp8 := fp8.keep Kc140 (ninS ne61 nin0)
  replace B12 := B12.keep Kc140
  replace B21 := B21.keep Kc140
  replace B31 := B31.keep Kc140
  replace B42 := B42.keep Kc140
  replace f72 := f72.keep Kc140
  clear f73
  clear f74
  clear f75
  clear f76
  replace f89 := f89.keep Kc140 (ninS ne62 nin0)
  replace f99 := f99.keep Kc140 (ninS ne63 nin0)
  replace f109 := f109.keep Kc140 (ninS ne64 nin0)
  replace B113 := B113.keep Kc140
  replace f122 := f122.keep Kc140 (ninS ne119.symm nin0)
  replace f130 := f130.keep Kc140 (ninS ne65 nin0)
  replace O0 := own_oldKeep O0 Kc140 (allS big66 all0)
  replace K0 := K0.trans Kc140 (allS (Or.inr sz67) all0)
  clear Kc140
  show own_Go p e below s _ _ _ (T134.setTop (mkF m 83 #[rv a1, iv p2, rv a3, iv p4, iv p5, iv p6, rv w52, rv el1, rv b113, iv (0 : Int32)] [(.ref el2)]))
  obtain ⟨T142, X142, e142, st142⟩ := castY X134 hx hZ hown (ow190 hw) (rfl : T134.heap = T134.heap) (Ins.self (fp21.keep K0)) (g := (mkF m 83 #[rv a1, iv p2, rv a3, iv p4, iv p5, iv p6, rv w52, rv el1, rv b113, iv (0 : Int32)] [(.ref el2)])) rfl rfl (hb hby d5_83)
  refine own_go st142 ?_
  clear st142 X134
  refine own_go (fun _ k => XS.astore X142.here hx rfl (hb hby d5_86) rfl rfl (l' := #[rv a1, iv p2, rv a3, iv p4, iv p5, iv p6, rv w52, rv el2, rv b113, iv (0 : Int32)]) rfl k) ?_
  refine own_go (fun _ k => XS.aloadN X142.here hx rfl (hb hby d5_88) rfl rfl k) ?_
  obtain ⟨T143, X143, e143, st143⟩ := getF X142 hx hZ hown (host := "") (Or.inl (ow48 hw)) Via.refl e142 fp2 (g := (mkF m 89 #[rv a1, iv p2, rv a3, iv p4, iv p5, iv p6, rv w52, rv el2, rv b113, iv (0 : Int32)] [(.ref a1)])) rfl rfl (hb hby d5_89)
  refine own_go st143 ?_
  clear st143 X142 e142
  refine own_go (fun _ k => XS.aload X143.here hx rfl (hb hby d5_92) rfl rfl k) ?_
  obtain ⟨v144, T144, L144, X144, hQ144, st144⟩ := own_callV (y := (⟨"com/example/nudo/nudo/Vehicle", "trip", "()I"⟩ : MethodName)) (z := (⟨"com/example/nudo/nudo/Vehicle", "trip", "()I"⟩ : MethodName)) X143 hx hZ hown (ow192 hw) (ow193 hw) (notFace_of_selects (args := #[]) (mvT hZ (ow195 hw))) (ow195 hw) (ow194 hw) (ow111 hw) (ow196 hw) (rm_vtrip l Z a0 hw oDE oDV [] el2 (1 : Int32) T134.heap O0 (fp24.keep K0 (ninS ne5 nin0))) 1 0 0 (by show _ ≤ 7; omega) (by show _ ≤ 12; omega) e143 (fp21.keep K0) (g := (mkF m 94 #[rv a1, iv p2, rv a3, iv p4, iv p5, iv p6, rv w52, rv el2, rv b113, iv (0 : Int32)] [(.ref el2), (.ref b12)])) rfl (by rw [hml]; rfl) [] [(.ref b12)] (lenOf own_pd_9 rfl) rfl rfl (hb hby d5_94)
  obtain ⟨rfl, Nc146, Kc145⟩ := hQ144
  refine own_go st144 ?_
  clear st144 X143 e143
  replace N0 := Fr.app N0 Nc146
  clear Nc146
  refine own_go (fun _ k => XS.aload X144.here hx rfl (hb hby d5_97) rfl rfl k) ?_
  show own_Go p e below s _ _ _ (T144.setTop (mkF m 99 #[rv a1, iv p2, rv a3, iv p4, iv p5, iv p6, rv w52, rv el2, rv b113, iv (0 : Int32)] [(.ref el2), (.int (1 : Int32)), (.ref b12)]))
  obtain ⟨v147, T147, L147, X147, hQ147, st147⟩ := own_callV (y := (⟨"com/example/nudo/nudo/Vehicle", "departureStep", "()I"⟩ : MethodName)) (z := (⟨"com/example/nudo/nudo/Vehicle", "departureStep", "()I"⟩ : MethodName)) X144 hx hZ hown (ow197 hw) (ow198 hw) (notFace_of_selects (args := #[]) (mvT hZ (ow200 hw))) (ow200 hw) (ow199 hw) (ow111 hw) (ow201 hw) (rm_vdepartureStep l Z a0 hw oDE oDV [] el2 d1 T134.heap O0 (fp26.keep K0 (ninS ne5 nin0))) 2 0 0 (by show _ ≤ 7; omega) (by show _ ≤ 12; omega) Kc145 (fp21.keep K0) (g := (mkF m 99 #[rv a1, iv p2, rv a3, iv p4, iv p5, iv p6, rv w52, rv el2, rv b113, iv (0 : Int32)] [(.ref el2), (.int (1 : Int32)), (.ref b12)])) rfl (by rw [hml]; rfl) [] [(.int (1 : Int32)), (.ref b12)] (lenOf own_pd_9 rfl) rfl rfl (hb hby d5_99)
  obtain ⟨rfl, Nc149, Kc148⟩ := hQ147
  refine own_go st147 ?_
  clear st147 X144 Kc145
  replace N0 := Fr.app N0 Nc149
  clear Nc149
  obtain ⟨cl150, Ar150, q150, S150, M150, P150, G150⟩ := id f89
  have hin150 : ¬ ((1 : Int32) < 0 ∨ cl150.slots.size ≤ ((1 : Int32)).toNatClampNeg) := inb_of S150 ⟨by decide, by decide⟩
  obtain ⟨T151, h151, X151, e151, W151, st151⟩ := stI X147 hx hZ Kc148 Ar150 (j := (1 : Int32)) hin150 (g := (mkF m 102 #[rv a1, iv p2, rv a3, iv p4, iv p5, iv p6, rv w52, rv el2, rv b113, iv (0 : Int32)] [(.int d1), (.int (1 : Int32)), (.ref b12)])) rfl rfl (hb hby d5_102)
  refine own_go st151 ?_
  clear st151 X147 Kc148
  have f152 : Arv Z h151 b12 k12 .int (2 : Int32) [(.int d0), (.int d1)] (.int (0 : Int32)) := Arv.set Ar150 q150 S150 M150 P150 G150 rfl W151 1 rfl (Nat.le_of_ble_eq_true rfl)
  replace N0 := Fr.snoc X151 N0 big14
  replace fp0 := fp0.wr W151
  replace fp1 := fp1.other W151 (Or.inl ne13)
  replace fp2 := fp2.other W151 (Or.inl ne13)
  replace fp3 := fp3.other W151 (Or.inl ne13)
  replace fp4 := fp4.other W151 (Or.inl ne13)
  replace fp5 := fp5.other W151 (Or.inl ne13)
  replace fp6 := fp6.other W151 (Or.inl ne13)
  replace fp7 := fp7.other W151 (Or.inl ne13)
  replace fp8 := fp8.other W151 (Or.inl ne13)
  replace B12 := B12.wr W151
  replace B21 := B21.wr W151
  replace B31 := B31.wr W151
  replace B42 := B42.wr W151
  replace f135 := f135.wr W151
  clear f89
  replace f99 := f99.other W151 ne23.symm
  replace f109 := f109.other W151 ne33.symm
  replace B113 := B113.wr W151
  replace f122 := f122.other W151 ne115.symm
  replace f130 := f130.other W151 ne44.symm
  replace f136 := f136.other W151 (Or.inl ne62.symm)
  replace f137 := f137.other W151 (Or.inl ne62.symm)
  replace f138 := f138.other W151 (Or.inl ne62.symm)
  replace f139 := f139.other W151 (Or.inl ne62.symm)
  replace O0 := own_oldWr O0 W151 big14
  replace K0 := K0.wr W151 (Or.inr sz15)
  clear W151
  clear Ar150 q150 S150 M150 P150 G150 hin150
  refine own_go (fun _ k => XS.aloadN X151.here hx rfl (hb hby d5_103) rfl rfl k) ?_
  obtain ⟨T153, X153, e153, st153⟩ := getF X151 hx hZ hown (host := "") (Or.inl (ow50 hw)) Via.refl e151 fp3 (g := (mkF m 104 #[rv a1, iv p2, rv a3, iv p4, iv p5, iv p6, rv w52, rv el2, rv b113, iv (0 : Int32)] [(.ref a1)])) rfl rfl (hb hby d5_104)
  refine own_go st153 ?_
  clear st153 X151 e151
  refine own_go (fun _ k => XS.aload X153.here hx rfl (hb hby d5_107) rfl rfl k) ?_
  obtain ⟨v154, T154, L154, X154, hQ154, st154⟩ := own_callV (y := (⟨"com/example/nudo/nudo/Vehicle", "trip", "()I"⟩ : MethodName)) (z := (⟨"com/example/nudo/nudo/Vehicle", "trip", "()I"⟩ : MethodName)) X153 hx hZ hown (ow192 hw) (ow193 hw) (notFace_of_selects (args := #[]) (mvT hZ (ow195 hw))) (ow195 hw) (ow194 hw) (ow111 hw) (ow196 hw) (rm_vtrip l Z a0 hw oDE oDV [] el2 (1 : Int32) h151 O0 (fp24.keep K0 (ninS ne5 nin0))) 1 0 0 (by show _ ≤ 7; omega) (by show _ ≤ 12; omega) e153 (fp21.keep K0) (g := (mkF m 109 #[rv a1, iv p2, rv a3, iv p4, iv p5, iv p6, rv w52, rv el2, rv b113, iv (0 : Int32)] [(.ref el2), (.ref b21)])) rfl (by rw [hml]; rfl) [] [(.ref b21)] (lenOf own_pd_9 rfl) rfl rfl (hb hby d5_109)
  obtain ⟨rfl, Nc156, Kc155⟩ := hQ154
  refine own_go st154 ?_
  clear st154 X153 e153
  replace N0 := Fr.app N0 Nc156
  clear Nc156
  refine own_go (fun _ k => XS.aload X154.here hx rfl (hb hby d5_112) rfl rfl k) ?_
  show own_Go p e below s _ _ _ (T154.setTop (mkF m 114 #[rv a1, iv p2, rv a3, iv p4, iv p5, iv p6, rv w52, rv el2, rv b113, iv (0 : Int32)] [(.ref el2), (.int (1 : Int32)), (.ref b21)]))
  obtain ⟨v157, T157, L157, X157, hQ157, st157⟩ := own_callV (y := (⟨"com/example/nudo/nudo/Vehicle", "exitStep", "()I"⟩ : MethodName)) (z := (⟨"com/example/nudo/nudo/Vehicle", "exitStep", "()I"⟩ : MethodName)) X154 hx hZ hown (ow202 hw) (ow203 hw) (notFace_of_selects (args := #[]) (mvT hZ (ow205 hw))) (ow205 hw) (ow204 hw) (ow111 hw) (ow206 hw) (rm_vexitStep l Z a0 hw oDE oDV [] el2 x1 h151 O0 (fp23.keep K0 (ninS ne5 nin0))) 2 0 0 (by show _ ≤ 7; omega) (by show _ ≤ 12; omega) Kc155 (fp21.keep K0) (g := (mkF m 114 #[rv a1, iv p2, rv a3, iv p4, iv p5, iv p6, rv w52, rv el2, rv b113, iv (0 : Int32)] [(.ref el2), (.int (1 : Int32)), (.ref b21)])) rfl (by rw [hml]; rfl) [] [(.int (1 : Int32)), (.ref b21)] (lenOf own_pd_9 rfl) rfl rfl (hb hby d5_114)
  obtain ⟨rfl, Nc159, Kc158⟩ := hQ157
  refine own_go st157 ?_
  clear st157 X154 Kc155
  replace N0 := Fr.app N0 Nc159
  clear Nc159
  obtain ⟨cl160, Ar160, q160, S160, M160, P160, G160⟩ := id f99
  have hin160 : ¬ ((1 : Int32) < 0 ∨ cl160.slots.size ≤ ((1 : Int32)).toNatClampNeg) := inb_of S160 ⟨by decide, by decide⟩
  obtain ⟨T161, h161, X161, e161, W161, st161⟩ := stI X157 hx hZ Kc158 Ar160 (j := (1 : Int32)) hin160 (g := (mkF m 117 #[rv a1, iv p2, rv a3, iv p4, iv p5, iv p6, rv w52, rv el2, rv b113, iv (0 : Int32)] [(.int x1), (.int (1 : Int32)), (.ref b21)])) rfl rfl (hb hby d5_117)
  refine own_go st161 ?_
  clear st161 X157 Kc158
  have f162 : Arv Z h161 b21 k21 .int (2 : Int32) [(.int x0), (.int x1)] (.int (0 : Int32)) := Arv.set Ar160 q160 S160 M160 P160 G160 rfl W161 1 rfl (Nat.le_of_ble_eq_true rfl)
  replace N0 := Fr.snoc X161 N0 big24
  replace fp0 := fp0.wr W161
  replace fp1 := fp1.other W161 (Or.inl ne22)
  replace fp2 := fp2.other W161 (Or.inl ne22)
  replace fp3 := fp3.other W161 (Or.inl ne22)
  replace fp4 := fp4.other W161 (Or.inl ne22)
  replace fp5 := fp5.other W161 (Or.inl ne22)
  replace fp6 := fp6.other W161 (Or.inl ne22)
  replace fp7 := fp7.other W161 (Or.inl ne22)
  replace fp8 := fp8.other W161 (Or.inl ne22)
  replace B12 := B12.wr W161
  replace B21 := B21.wr W161
  replace B31 := B31.wr W161
  replace B42 := B42.wr W161
  replace f135 := f135.wr W161
  clear f99
  replace f109 := f109.other W161 ne34.symm
  replace B113 := B113.wr W161
  replace f122 := f122.other W161 ne116.symm
  replace f130 := f130.other W161 ne45.symm
  replace f136 := f136.other W161 (Or.inl ne63.symm)
  replace f137 := f137.other W161 (Or.inl ne63.symm)
  replace f138 := f138.other W161 (Or.inl ne63.symm)
  replace f139 := f139.other W161 (Or.inl ne63.symm)
  replace f152 := f152.other W161 ne23
  replace O0 := own_oldWr O0 W161 big24
  replace K0 := K0.wr W161 (Or.inr sz25)
  clear W161
  clear Ar160 q160 S160 M160 P160 G160 hin160
  refine own_go (fun _ k => XS.aloadN X161.here hx rfl (hb hby d5_118) rfl rfl k) ?_
  obtain ⟨T163, X163, e163, st163⟩ := getF X161 hx hZ hown (host := "") (Or.inl (ow52 hw)) Via.refl e161 fp4 (g := (mkF m 119 #[rv a1, iv p2, rv a3, iv p4, iv p5, iv p6, rv w52, rv el2, rv b113, iv (0 : Int32)] [(.ref a1)])) rfl rfl (hb hby d5_119)
  refine own_go st163 ?_
  clear st163 X161 e161
  refine own_go (fun _ k => XS.aload X163.here hx rfl (hb hby d5_122) rfl rfl k) ?_
  obtain ⟨v164, T164, L164, X164, hQ164, st164⟩ := own_callV (y := (⟨"com/example/nudo/nudo/Vehicle", "trip", "()I"⟩ : MethodName)) (z := (⟨"com/example/nudo/nudo/Vehicle", "trip", "()I"⟩ : MethodName)) X163 hx hZ hown (ow192 hw) (ow193 hw) (notFace_of_selects (args := #[]) (mvT hZ (ow195 hw))) (ow195 hw) (ow194 hw) (ow111 hw) (ow196 hw) (rm_vtrip l Z a0 hw oDE oDV [] el2 (1 : Int32) h161 O0 (fp24.keep K0 (ninS ne5 nin0))) 1 0 0 (by show _ ≤ 7; omega) (by show _ ≤ 12; omega) e163 (fp21.keep K0) (g := (mkF m 124 #[rv a1, iv p2, rv a3, iv p4, iv p5, iv p6, rv w52, rv el2, rv b113, iv (0 : Int32)] [(.ref el2), (.ref b31)])) rfl (by rw [hml]; rfl) [] [(.ref b31)] (lenOf own_pd_9 rfl) rfl rfl (hb hby d5_124)
  obtain ⟨rfl, Nc166, Kc165⟩ := hQ164
  refine own_go st164 ?_
  clear st164 X163 e163
  replace N0 := Fr.app N0 Nc166
  clear Nc166
  refine own_go (fun _ k => XS.aload X164.here hx rfl (hb hby d5_127) rfl rfl k) ?_
  show own_Go p e below s _ _ _ (T164.setTop (mkF m 129 #[rv a1, iv p2, rv a3, iv p4, iv p5, iv p6, rv w52, rv el2, rv b113, iv (0 : Int32)] [(.ref el2), (.int (1 : Int32)), (.ref b31)]))
  obtain ⟨v167, T167, L167, X167, hQ167, st167⟩ := own_callV (y := (⟨"com/example/nudo/nudo/Vehicle", "pathCells", "()I"⟩ : MethodName)) (z := (⟨"com/example/nudo/nudo/Vehicle", "pathCells", "()I"⟩ : MethodName)) X164 hx hZ hown (ow207 hw) (ow208 hw) (notFace_of_selects (args := #[]) (mvT hZ (ow210 hw))) (ow210 hw) (ow209 hw) (ow111 hw) (ow211 hw) (rm_vpc l Z a0 hw oDE oDV [] el2 pa1 kp1 h161 O0 (fp25.keep K0 (ninS ne5 nin0)) (fp27.keep K0 (ninS ne6 nin0))) 2 0 0 (by show _ ≤ 7; omega) (by show _ ≤ 12; omega) Kc165 (fp21.keep K0) (g := (mkF m 129 #[rv a1, iv p2, rv a3, iv p4, iv p5, iv p6, rv w52, rv el2, rv b113, iv (0 : Int32)] [(.ref el2), (.int (1 : Int32)), (.ref b31)])) rfl (by rw [hml]; rfl) [] [(.int (1 : Int32)), (.ref b31)] (lenOf own_pd_9 rfl) rfl rfl (hb hby d5_129)
  obtain ⟨rfl, Nc169, Kc168⟩ := hQ167
  refine own_go st167 ?_
  clear st167 X164 Kc165
  replace N0 := Fr.app N0 Nc169
  clear Nc169
  obtain ⟨cl170, Ar170, q170, S170, M170, P170, G170⟩ := id f109
  have hin170 : ¬ ((1 : Int32) < 0 ∨ cl170.slots.size ≤ ((1 : Int32)).toNatClampNeg) := inb_of S170 ⟨by decide, by decide⟩
  obtain ⟨T171, h171, X171, e171, W171, st171⟩ := stI X167 hx hZ Kc168 Ar170 (j := (1 : Int32)) hin170 (g := (mkF m 132 #[rv a1, iv p2, rv a3, iv p4, iv p5, iv p6, rv w52, rv el2, rv b113, iv (0 : Int32)] [(.int (0 : Int32)), (.int (1 : Int32)), (.ref b31)])) rfl rfl (hb hby d5_132)
  refine own_go st171 ?_
  clear st171 X167 Kc168
  have f172 : Arv Z h171 b31 k31 .int (2 : Int32) [(.int (0 : Int32)), (.int (0 : Int32))] (.int (0 : Int32)) := Arv.set Ar170 q170 S170 M170 P170 G170 rfl W171 1 rfl (Nat.le_of_ble_eq_true rfl)
  replace N0 := Fr.snoc X171 N0 big35
  replace fp0 := fp0.wr W171
  replace fp1 := fp1.other W171 (Or.inl ne32)
  replace fp2 := fp2.other W171 (Or.inl ne32)
  replace fp3 := fp3.other W171 (Or.inl ne32)
  replace fp4 := fp4.other W171 (Or.inl ne32)
  replace fp5 := fp5.other W171 (Or.inl ne32)
  replace fp6 := fp6.other W171 (Or.inl ne32)
  replace fp7 := fp7.other W171 (Or.inl ne32)
  replace fp8 := fp8.other W171 (Or.inl ne32)
  replace B12 := B12.wr W171
  replace B21 := B21.wr W171
  replace B31 := B31.wr W171
  replace B42 := B42.wr W171
  replace f135 := f135.wr W171
  clear f109
  replace B113 := B113.wr W171
  replace f122 := f122.other W171 ne117.symm
  replace f130 := f130.other W171 ne46.symm
  replace f136 := f136.other W171 (Or.inl ne64.symm)
  replace f137 := f137.other W171 (Or.inl ne64.symm)
  replace f138 := f138.other W171 (Or.inl ne64.symm)
  replace f139 := f139.other W171 (Or.inl ne64.symm)
  replace f152 := f152.other W171 ne33
  replace f162 := f162.other W171 ne34
  replace O0 := own_oldWr O0 W171 big35
  replace K0 := K0.wr W171 (Or.inr sz36)
  clear W171
  clear Ar170 q170 S170 M170 P170 G170 hin170
  refine own_go (fun _ k => XS.aload X171.here hx rfl (hb hby d5_133) rfl rfl k) ?_
  obtain ⟨v173, T173, L173, X173, hQ173, st173⟩ := own_callV (y := (⟨"com/example/nudo/nudo/Vehicle", "linksEntered", "()I"⟩ : MethodName)) (z := (⟨"com/example/nudo/nudo/Vehicle", "linksEntered", "()I"⟩ : MethodName)) X171 hx hZ hown (ow212 hw) (ow213 hw) (notFace_of_selects (args := #[]) (mvT hZ (ow215 hw))) (ow215 hw) (ow214 hw) (ow111 hw) (ow216 hw) (rm_vle l Z a0 hw oDE oDV [] el2 h171 O0 (fp22.keep K0 (ninS ne5 nin0))) 0 0 0 (by show _ ≤ 7; omega) (by show _ ≤ 12; omega) e171 (fp21.keep K0) (g := (mkF m 135 #[rv a1, iv p2, rv a3, iv p4, iv p5, iv p6, rv w52, rv el2, rv b113, iv (0 : Int32)] [(.ref el2)])) rfl (by rw [hml]; rfl) [] [] (lenOf own_pd_9 rfl) rfl rfl (hb hby d5_135)
  obtain ⟨rfl, Nc175, Kc174⟩ := hQ173
  refine own_go st173 ?_
  clear st173 X171 e171
  replace N0 := Fr.app N0 Nc175
  clear Nc175
  obtain ⟨T176, h176, k176, X176, e176, E176, A176, B176, st176⟩ := newPE (aty := .int) X173 hx hZ (ow47 hw) Kc174 (g := (mkF m 138 #[rv a1, iv p2, rv a3, iv p4, iv p5, iv p6, rv w52, rv el2, rv b113, iv (0 : Int32)] [(.int (0 : Int32))])) rfl (hb hby d5_138) rfl (by decide) (cap := 0) (by decide) (by decide) (by show _ ≤ 7; omega) (by show _ ≤ 12; omega) (ad := "[I") (by decide)
  obtain ⟨b176, g176⟩ : ∃ z, z = h171.size := ⟨_, rfl⟩
  rw [← g176] at A176 B176 st176
  refine own_go st176 ?_
  clear st176 X173 Kc174
  have ge176 := Nat.le_of_eq g176.symm
  have ne177 : a1 ≠ b176 := Nat.ne_of_lt (Nat.lt_of_lt_of_le fp0.lt ge176)
  have ne178 : b12 ≠ b176 := Nat.ne_of_lt (Nat.lt_of_lt_of_le B12.lt ge176)
  have ne179 : b21 ≠ b176 := Nat.ne_of_lt (Nat.lt_of_lt_of_le B21.lt ge176)
  have ne180 : b31 ≠ b176 := Nat.ne_of_lt (Nat.lt_of_lt_of_le B31.lt ge176)
  have ne181 : b42 ≠ b176 := Nat.ne_of_lt (Nat.lt_of_lt_of_le B42.lt ge176)
  have ne182 : w52 ≠ b176 := Nat.ne_of_lt (Nat.lt_of_lt_of_le f135.lt ge176)
  have ne183 : b113 ≠ b176 := Nat.ne_of_lt (Nat.lt_of_lt_of_le B113.lt ge176)
  have big184 : Z.heap.size ≤ b176 := Nat.le_trans O0.1 ge176
  have sz185 : h0.size ≤ b176 := Nat.le_trans K0.1 ge176
  replace fp0 := fp0.ext E176
  replace fp1 := fp1.ext E176
  replace fp2 := fp2.ext E176
  replace fp3 := fp3.ext E176
  replace fp4 := fp4.ext E176
  replace fp5 := fp5.ext E176
  replace fp6 := fp6.ext E176
  replace fp7 := fp7.ext E176
  replace fp8 := fp8.ext E176
  replace B12 := B12.ext E176
  replace B21 := B21.ext E176
  replace B31 := B31.ext E176
  replace B42 := B42.ext E176
  replace f135 := f135.ext E176
  replace B113 := B113.ext E176
  replace f122 := f122.ext E176
  replace f130 := f130.ext E176
  replace f136 := f136.ext E176
  replace f137 := f137.ext E176
  replace f138 := f138.ext E176
  replace f139 := f139.ext E176
  replace f152 := f152.ext E176
  replace f162 := f162.ext E176
  replace f172 := f172.ext E176
  replace O0 := own_oldExt O0 E176
  replace K0 := K0.ext E176
  clear E176
  have f186 : Arv Z h176 b176 k176 .int (0 : Int32) [] (.int (0 : Int32)) := (Arv.new A176 (by decide)).pad (pad_rep [] (.int (0 : Int32)) 0)
  refine own_go (fun _ k => XS.astore X176.here hx rfl (hb hby d5_140) rfl rfl (l' := #[rv a1, iv p2, rv a3, iv p4, iv p5, iv p6, rv w52, rv el2, rv b176, iv (0 : Int32)]) rfl k) ?_
  refine own_go (fun _ k => XS.iconst X176.here hx rfl (hb hby d5_142) k) ?_
  show own_Go p e below s _ _ _ (T176.setTop (mkF m 143 #[rv a1, iv p2, rv a3, iv p4, iv p5, iv p6, rv w52, rv el2, rv b176, iv (0 : Int32)] [(.int (0 : Int32))]))
  refine own_go (fun _ k => XS.istore X176.here hx rfl (hb hby d5_143) rfl (l' := #[rv a1, iv p2, rv a3, iv p4, iv p5, iv p6, rv w52, rv el2, rv b176, iv (0 : Int32)]) rfl k) ?_
  refine own_go (fun _ k => XS.iload X176.here hx rfl (hb hby d5_145) rfl k) ?_
  refine own_go (fun _ k => XS.aload X176.here hx rfl (hb hby d5_147) rfl rfl k) ?_
  show own_Go p e below s _ _ _ (T176.setTop (mkF m 149 #[rv a1, iv p2, rv a3, iv p4, iv p5, iv p6, rv w52, rv el2, rv b176, iv (0 : Int32)] [(.ref b176), (.int (0 : Int32))]))
  obtain ⟨cl187, Ar187, -, S187, M187, -, -⟩ := id f186
  refine own_go (X176.arraylength hx (by rw [e176]; exact Ar187.1) (State.isArrayOf_alike hZ.alike Ar187.2.1) (g := (mkF m 149 #[rv a1, iv p2, rv a3, iv p4, iv p5, iv p6, rv w52, rv el2, rv b176, iv (0 : Int32)] [(.ref b176), (.int (0 : Int32))])) rfl rfl (hb hby d5_149)) ?_
  rw [len_of S187 M187]
  refine own_go (fun _ k => XS.icmpYes X176.here hx rfl (pc0 := 150) (pc' := 171) rfl (hb hby d5_150) rfl (flt (by decide : ¬ ((0 : Int32) < (0 : Int32)))).2.1 (by decide) (by decide) k) ?_
  refine own_go (fun _ k => XS.aloadN X176.here hx rfl (hb hby d5_171) rfl rfl k) ?_
  obtain ⟨T188, X188, e188, st188⟩ := getF X176 hx hZ hown (host := "") (Or.inl (ow56 hw)) Via.refl e176 fp5 (g := (mkF m 172 #[rv a1, iv p2, rv a3, iv p4, iv p5, iv p6, rv w52, rv el2, rv b176, iv (0 : Int32)] [(.ref a1)])) rfl rfl (hb hby d5_172)
  refine own_go st188 ?_
  clear st188 X176 e176
  refine own_go (fun _ k => XS.aload X188.here hx rfl (hb hby d5_175) rfl rfl k) ?_
  obtain ⟨v189, T189, L189, X189, hQ189, st189⟩ := own_callV (y := (⟨"com/example/nudo/nudo/Vehicle", "trip", "()I"⟩ : MethodName)) (z := (⟨"com/example/nudo/nudo/Vehicle", "trip", "()I"⟩ : MethodName)) X188 hx hZ hown (ow192 hw) (ow193 hw) (notFace_of_selects (args := #[]) (mvT hZ (ow195 hw))) (ow195 hw) (ow194 hw) (ow111 hw) (ow196 hw) (rm_vtrip l Z a0 hw oDE oDV [] el2 (1 : Int32) h176 O0 (fp24.keep K0 (ninS ne5 nin0))) 1 0 0 (by show _ ≤ 7; omega) (by show _ ≤ 12; omega) e188 (fp21.keep K0) (g := (mkF m 177 #[rv a1, iv p2, rv a3, iv p4, iv p5, iv p6, rv w52, rv el2, rv b176, iv (0 : Int32)] [(.ref el2), (.ref b42)])) rfl (by rw [hml]; rfl) [] [(.ref b42)] (lenOf own_pd_9 rfl) rfl rfl (hb hby d5_177)
  obtain ⟨rfl, Nc191, Kc190⟩ := hQ189
  refine own_go st189 ?_
  clear st189 X188 e188
  replace N0 := Fr.app N0 Nc191
  clear Nc191
  refine own_go (fun _ k => XS.aload X189.here hx rfl (hb hby d5_180) rfl rfl k) ?_
  show own_Go p e below s _ _ _ (T189.setTop (mkF m 182 #[rv a1, iv p2, rv a3, iv p4, iv p5, iv p6, rv w52, rv el2, rv b176, iv (0 : Int32)] [(.ref b176), (.int (1 : Int32)), (.ref b42)]))
  obtain ⟨cl192, Ar192, q192, S192, M192, P192, G192⟩ := id f130
  have hin192 : ¬ ((1 : Int32) < 0 ∨ cl192.slots.size ≤ ((1 : Int32)).toNatClampNeg) := inb_of S192 ⟨by decide, by decide⟩
  obtain ⟨T193, h193, X193, e193, W193, st193⟩ := stR X189 hx hZ Kc190 Ar192 (j := (1 : Int32)) hin192 rfl (Sto.ofVA Ar192 q192 O42 (Ins.self B176)) (g := (mkF m 182 #[rv a1, iv p2, rv a3, iv p4, iv p5, iv p6, rv w52, rv el2, rv b176, iv (0 : Int32)] [(.ref b176), (.int (1 : Int32)), (.ref b42)])) rfl rfl (hb hby d5_182)
  refine own_go st193 ?_
  clear st193 X189 Kc190
  have f194 : Arv Z h193 b42 k42 (.array .int) (2 : Int32) [(.ref b113), (.ref b176)] .null := Arv.set Ar192 q192 S192 M192 P192 G192 rfl W193 1 rfl (Nat.le_of_ble_eq_true rfl)
  replace N0 := Fr.snoc X193 N0 big47
  replace fp0 := fp0.wr W193
  replace fp1 := fp1.other W193 (Or.inl ne43)
  replace fp2 := fp2.other W193 (Or.inl ne43)
  replace fp3 := fp3.other W193 (Or.inl ne43)
  replace fp4 := fp4.other W193 (Or.inl ne43)
  replace fp5 := fp5.other W193 (Or.inl ne43)
  replace fp6 := fp6.other W193 (Or.inl ne43)
  replace fp7 := fp7.other W193 (Or.inl ne43)
  replace fp8 := fp8.other W193 (Or.inl ne43)
  replace B12 := B12.wr W193
  replace B21 := B21.wr W193
  replace B31 := B31.wr W193
  replace B42 := B42.wr W193
  replace f135 := f135.wr W193
  replace B113 := B113.wr W193
  replace f122 := f122.other W193 ne118.symm
  clear f130
  replace f136 := f136.other W193 (Or.inl ne65.symm)
  replace f137 := f137.other W193 (Or.inl ne65.symm)
  replace f138 := f138.other W193 (Or.inl ne65.symm)
  replace f139 := f139.other W193 (Or.inl ne65.symm)
  replace f152 := f152.other W193 ne44
  replace f162 := f162.other W193 ne45
  replace f172 := f172.other W193 ne46
  replace B176 := B176.wr W193
  replace f186 := f186.other W193 ne181.symm
  replace O0 := own_oldWr O0 W193 big47
  replace K0 := K0.wr W193 (Or.inr sz48)
  clear W193
  clear Ar192 q192 S192 M192 P192 G192 hin192
  refine own_go (fun _ k => XS.goto X193.here hx rfl (pc0 := 183) (pc' := 66) rfl (hb hby d5_183) (by decide) (by decide) k) ?_
  refine own_go (fun _ k => XS.aload X193.here hx rfl (hb hby d5_66) rfl rfl k) ?_
  obtain ⟨v195, T195, L195, X195, hQ195, st195⟩ := own_callF (xi := (⟨"java/util/Iterator", "hasNext", "()Z"⟩ : MethodName)) (y := (⟨"java/util/ArrayList$Itr", "hasNext", "()Z"⟩ : MethodName)) X193 hx hZ hown (ow82 hw) (ow83 hw) (ow84 hw) (ow85 hw) (ow86 hw) (ow87 hw) (ow88 hw) (ow89 hw) (ow68 hw) (ow90 hw) (by decide) (rm_hn_2_2 l Z a0 hw oDE oDV [] w52 a3 h193 O0 f136 f137 (fp10.keep K0 (ninS ne1 nin0))) 0 0 0 (by show _ ≤ 7; omega) (by show _ ≤ 12; omega) e193 f135 (g := (mkF m 68 #[rv a1, iv p2, rv a3, iv p4, iv p5, iv p6, rv w52, rv el2, rv b176, iv (0 : Int32)] [(.ref w52)])) rfl (by rw [hml]; rfl) [] [] (lenOf own_pd_11 rfl) rfl rfl (hb hby d5_68)
  obtain ⟨rfl, Nc197, Kc196⟩ := hQ195
  refine own_go st195 ?_
  clear st195 X193 e193
  replace N0 := Fr.app N0 Nc197
  clear Nc197
  refine own_go (fun _ k => XS.ifYes X195.here hx rfl (pc0 := 73) (pc' := 186) rfl (hb hby d5_73) rfl ((if0 _ _).trans (teq (by decide : (0 : Int32) = (0 : Int32))).1) (by decide) (by decide) k) ?_
  refine own_go (fun _ k => XS.aloadN X195.here hx rfl (hb hby d5_186) rfl rfl k) ?_
  refine own_go (fun _ k => XS.iload X195.here hx rfl (hb hby d5_187) rfl k) ?_
  show own_Go p e below s _ _ _ (T195.setTop (mkF m 189 #[rv a1, iv p2, rv a3, iv p4, iv p5, iv p6, rv w52, rv el2, rv b176, iv (0 : Int32)] [(.int p6), (.ref a1)]))
  obtain ⟨T198, h198, X198, e198, W198, st198⟩ := putF X195 hx hZ hown (host := "") (Or.inl (ow94 hw)) Via.refl Kc196 fp6 fp0 (Or.inr ⟨(ow95 hw), rfl, hnm⟩) (ow28 hw) (ty := .int) own_fd0 rfl rfl (g := (mkF m 189 #[rv a1, iv p2, rv a3, iv p4, iv p5, iv p6, rv w52, rv el2, rv b176, iv (0 : Int32)] [(.int p6), (.ref a1)])) rfl rfl (hb hby d5_189)
  refine own_go st198 ?_
  clear st198 X195 Kc196
  replace N0 := Fr.snoc X198 N0 big_a1
  replace fp0 := fp0.wr W198
  replace fp1 := fp1.other W198 (.inr (own_sn49 hw).symm)
  replace fp2 := fp2.other W198 (.inr (own_sn55 hw).symm)
  replace fp3 := fp3.other W198 (.inr (own_sn60 hw).symm)
  replace fp4 := fp4.other W198 (.inr (own_sn64 hw).symm)
  replace fp5 := fp5.other W198 (.inr (own_sn67 hw).symm)
  replace fp6 := fp6.same W198
  replace fp7 := fp7.other W198 (.inr (own_sn70 hw))
  replace fp8 := fp8.other W198 (.inr (own_sn71 hw))
  replace B12 := B12.wr W198
  replace B21 := B21.wr W198
  replace B31 := B31.wr W198
  replace B42 := B42.wr W198
  replace f135 := f135.wr W198
  replace B113 := B113.wr W198
  replace f122 := f122.other W198 ne114.symm
  replace f136 := f136.other W198 (Or.inl ne61.symm)
  replace f137 := f137.other W198 (Or.inl ne61.symm)
  replace f138 := f138.other W198 (Or.inl ne61.symm)
  replace f139 := f139.other W198 (Or.inl ne61.symm)
  replace f152 := f152.other W198 ne13.symm
  replace f162 := f162.other W198 ne22.symm
  replace f172 := f172.other W198 ne32.symm
  replace B176 := B176.wr W198
  replace f186 := f186.other W198 ne177.symm
  replace f194 := f194.other W198 ne43.symm
  replace O0 := own_oldWr O0 W198 big_a1
  replace K0 := K0.wr W198 (Or.inl (List.mem_of_getElem? (i := 0) rfl))
  clear W198
  refine own_go (fun _ k => XS.aloadN X198.here hx rfl (hb hby d5_192) rfl rfl k) ?_
  refine own_go (fun _ k => XS.iloadN X198.here hx rfl (hb hby d5_193) rfl k) ?_
  obtain ⟨T199, h199, X199, e199, W199, st199⟩ := putF X198 hx hZ hown (host := "") (Or.inl (ow96 hw)) Via.refl e198 fp7 fp0 (Or.inr ⟨(ow97 hw), rfl, hnm⟩) (ow28 hw) (ty := .int) own_fd0 rfl rfl (g := (mkF m 194 #[rv a1, iv p2, rv a3, iv p4, iv p5, iv p6, rv w52, rv el2, rv b176, iv (0 : Int32)] [(.int p4), (.ref a1)])) rfl rfl (hb hby d5_194)
  refine own_go st199 ?_
  clear st199 X198 e198
  replace N0 := Fr.snoc X199 N0 big_a1
  replace fp0 := fp0.wr W199
  replace fp1 := fp1.other W199 (.inr (own_sn50 hw).symm)
  replace fp2 := fp2.other W199 (.inr (own_sn56 hw).symm)
  replace fp3 := fp3.other W199 (.inr (own_sn61 hw).symm)
  replace fp4 := fp4.other W199 (.inr (own_sn65 hw).symm)
  replace fp5 := fp5.other W199 (.inr (own_sn68 hw).symm)
  replace fp6 := fp6.other W199 (.inr (own_sn70 hw).symm)
  replace fp7 := fp7.same W199
  replace fp8 := fp8.other W199 (.inr (own_sn72 hw))
  replace B12 := B12.wr W199
  replace B21 := B21.wr W199
  replace B31 := B31.wr W199
  replace B42 := B42.wr W199
  replace f135 := f135.wr W199
  replace B113 := B113.wr W199
  replace f122 := f122.other W199 ne114.symm
  replace f136 := f136.other W199 (Or.inl ne61.symm)
  replace f137 := f137.other W199 (Or.inl ne61.symm)
  replace f138 := f138.other W199 (Or.inl ne61.symm)
  replace f139 := f139.other W199 (Or.inl ne61.symm)
  replace f152 := f152.other W199 ne13.symm
  replace f162 := f162.other W199 ne22.symm
  replace f172 := f172.other W199 ne32.symm
  replace B176 := B176.wr W199
  replace f186 := f186.other W199 ne177.symm
  replace f194 := f194.other W199 ne43.symm
  replace O0 := own_oldWr O0 W199 big_a1
  replace K0 := K0.wr W199 (Or.inl (List.mem_of_getElem? (i := 0) rfl))
  clear W199
  refine own_go (fun _ k => XS.aloadN X199.here hx rfl (hb hby d5_197) rfl rfl k) ?_
  refine own_go (fun _ k => XS.iload X199.here hx rfl (hb hby d5_198) rfl k) ?_
  obtain ⟨T200, h200, X200, e200, W200, st200⟩ := putF X199 hx hZ hown (host := "") (Or.inl (ow98 hw)) Via.refl e199 fp8 fp0 (Or.inr ⟨(ow99 hw), rfl, hnm⟩) (ow28 hw) (ty := .int) own_fd0 rfl rfl (g := (mkF m 200 #[rv a1, iv p2, rv a3, iv p4, iv p5, iv p6, rv w52, rv el2, rv b176, iv (0 : Int32)] [(.int p5), (.ref a1)])) rfl rfl (hb hby d5_200)
  refine own_go st200 ?_
  clear st200 X199 e199
  replace N0 := Fr.snoc X200 N0 big_a1
  replace fp0 := fp0.wr W200
  replace fp1 := fp1.other W200 (.inr (own_sn51 hw).symm)
  replace fp2 := fp2.other W200 (.inr (own_sn57 hw).symm)
  replace fp3 := fp3.other W200 (.inr (own_sn62 hw).symm)
  replace fp4 := fp4.other W200 (.inr (own_sn66 hw).symm)
  replace fp5 := fp5.other W200 (.inr (own_sn69 hw).symm)
  replace fp6 := fp6.other W200 (.inr (own_sn71 hw).symm)
  replace fp7 := fp7.other W200 (.inr (own_sn72 hw).symm)
  replace fp8 := fp8.same W200
  replace B12 := B12.wr W200
  replace B21 := B21.wr W200
  replace B31 := B31.wr W200
  replace B42 := B42.wr W200
  replace f135 := f135.wr W200
  replace B113 := B113.wr W200
  replace f122 := f122.other W200 ne114.symm
  replace f136 := f136.other W200 (Or.inl ne61.symm)
  replace f137 := f137.other W200 (Or.inl ne61.symm)
  replace f138 := f138.other W200 (Or.inl ne61.symm)
  replace f139 := f139.other W200 (Or.inl ne61.symm)
  replace f152 := f152.other W200 ne13.symm
  replace f162 := f162.other W200 ne22.symm
  replace f172 := f172.other W200 ne32.symm
  replace B176 := B176.wr W200
  replace f186 := f186.other W200 ne177.symm
  replace f194 := f194.other W200 ne43.symm
  replace O0 := own_oldWr O0 W200 big_a1
  replace K0 := K0.wr W200 (Or.inl (List.mem_of_getElem? (i := 0) rfl))
  clear W200
  show own_Go p e below s _ _ _ (T200.setTop (mkF m 203 #[rv a1, iv p2, rv a3, iv p4, iv p5, iv p6, rv w52, rv el2, rv b176, iv (0 : Int32)] []))
  refine own_retV X200 hx hlk e200 hret (hb hby d5_203) (by show _ ≤ 7; omega) (by show _ ≤ 12; omega) ?_
  exact ⟨b21, k21, rfl, N0, K0, fp0, fp3, fp7, fp8, f162⟩
def Q_lrinit3 (Z : State) (wd : Addr) (kd : ClassId) (a1 : Addr) (p2 : Int32) (a3 : Addr) (p4 : Int32) (p5 : Int32) (p6 : Int32) (mc : Int32) (b : Addr) (k : ClassId) (el1 : Addr) (x0 : Int32) (d0 : Int32) (pa0 : Addr) (kp0 : ClassId) (el2 : Addr) (x1 : Int32) (d1 : Int32) (pa1 : Addr) (kp1 : ClassId) (el3 : Addr) (x2 : Int32) (d2 : Int32) (pa2 : Addr) (kp2 : ClassId) (h0 : Heap) (v : Option Value) (h : Heap) (L : List Loc) : Prop := (∃ xs : Addr, ∃ kx : ClassId, v = none ∧ Fr Z.heap.size L ∧ Keep h0 h [a1] ∧ Exa Z h a1 "com/example/nudo/nudo/LoadingResult" ∧ Fld Z h a1 "com/example/nudo/nudo/LoadingResult" "exitSteps" "[I" (.ref xs) ∧ Fld Z h a1 "com/example/nudo/nudo/LoadingResult" "vehiclesWaiting" "I" (.int p4) ∧ Fld Z h a1 "com/example/nudo/nudo/LoadingResult" "vehiclesInNetwork" "I" (.int p5) ∧ Arv Z h xs kx .int (3 : Int32) [(.int x0), (.int x1), (.int x2)] (.int (0 : Int32)))
theorem ef_lrinit3 (m : MethodId) (x0 : Addr) (x1 : Int32) (x2 : Addr) (x3 : Int32) (x4 : Int32) (x5 : Int32) : entryFrame m #[(.ref x0), (.int x1), (.ref x2), (.int x3), (.int x4), (.int x5)] 10 = mkF m 0 #[rv x0, iv x1, rv x2, iv x3, iv x4, iv x5, .unset, .unset, .unset, .unset] [] := by first | (simp [entryFrame, mkF, argsToLocals, Value.category]; done) | rfl
set_option maxRecDepth 65536 in
set_option maxHeartbeats 40000000 in
theorem rm_lrinit3 (l : Launch) (Z : State) (a0 : Array Value) (hw : ∀ d ∈ tables_1, d.before a0 Z = true) {wd : Addr} {kd : ClassId} (oDE : Sta Z Z.heap "java/util/ArrayList" "DEFAULTCAPACITY_EMPTY_ELEMENTDATA" "[Ljava/lang/Object;" (.ref wd)) (oDV : Arv Z Z.heap wd kd (.object "java/lang/Object") (0 : Int32) [] .null) (ws : List Jvm.Cond) (a1 : Addr) (p2 : Int32) (a3 : Addr) (p4 : Int32) (p5 : Int32) (p6 : Int32) (mc : Int32) (b : Addr) (k : ClassId) (el1 : Addr) (x0 : Int32) (d0 : Int32) (pa0 : Addr) (kp0 : ClassId) (el2 : Addr) (x1 : Int32) (d1 : Int32) (pa1 : Addr) (kp1 : ClassId) (el3 : Addr) (x2 : Int32) (d2 : Int32) (pa2 : Addr) (kp2 : ClassId) (h0 : Heap) (O0 : Ext Z.heap h0) (fp0 : Exa Z h0 a1 "com/example/nudo/nudo/LoadingResult") (fp1 : Fld Z h0 a1 "com/example/nudo/nudo/LoadingResult" "timeStep" "I" (.int (0 : Int32))) (fp2 : Fld Z h0 a1 "com/example/nudo/nudo/LoadingResult" "departureSteps" "[I" .null) (fp3 : Fld Z h0 a1 "com/example/nudo/nudo/LoadingResult" "exitSteps" "[I" .null) (fp4 : Fld Z h0 a1 "com/example/nudo/nudo/LoadingResult" "freeFlowSteps" "[I" .null) (fp5 : Fld Z h0 a1 "com/example/nudo/nudo/LoadingResult" "linkEntrySteps" "[[I" .null) (fp6 : Fld Z h0 a1 "com/example/nudo/nudo/LoadingResult" "endStep" "I" (.int (0 : Int32))) (fp7 : Fld Z h0 a1 "com/example/nudo/nudo/LoadingResult" "vehiclesWaiting" "I" (.int (0 : Int32))) (fp8 : Fld Z h0 a1 "com/example/nudo/nudo/LoadingResult" "vehiclesInNetwork" "I" (.int (0 : Int32))) (fp9 : Exa Z h0 a3 "java/util/ArrayList") (fp10 : Fld Z h0 a3 "java/util/ArrayList" "size" "I" (.int (3 : Int32))) (fp11 : Fld Z h0 a3 "java/util/ArrayList" "elementData" "[Ljava/lang/Object;" (.ref b)) (fp12 : Fld Z h0 a3 "java/util/AbstractList" "modCount" "I" (.int mc)) (fp13 : Arv Z h0 b k (.object "java/lang/Object") (10 : Int32) [(.ref el1), (.ref el2), (.ref el3), .null, .null, .null, .null, .null, .null, .null] .null) (fp14 : Exa Z h0 el1 "com/example/nudo/nudo/Vehicle") (fp15 : Fld Z h0 el1 "com/example/nudo/nudo/Vehicle" "position" "I" (.int (-1 : Int32))) (fp16 : Fld Z h0 el1 "com/example/nudo/nudo/Vehicle" "exitStep" "I" (.int x0)) (fp17 : Fld Z h0 el1 "com/example/nudo/nudo/Vehicle" "trip" "I" (.int (0 : Int32))) (fp18 : Fld Z h0 el1 "com/example/nudo/nudo/Vehicle" "path" "[Lcom/example/nudo/nudo/CellLink;" (.ref pa0)) (fp19 : Fld Z h0 el1 "com/example/nudo/nudo/Vehicle" "departureStep" "I" (.int d0)) (fp20 : Arv Z h0 pa0 kp0 (.object "com/example/nudo/nudo/CellLink") (0 : Int32) [] .null) (fp21 : Exa Z h0 el2 "com/example/nudo/nudo/Vehicle") (fp22 : Fld Z h0 el2 "com/example/nudo/nudo/Vehicle" "position" "I" (.int (-1 : Int32))) (fp23 : Fld Z h0 el2 "com/example/nudo/nudo/Vehicle" "exitStep" "I" (.int x1)) (fp24 : Fld Z h0 el2 "com/example/nudo/nudo/Vehicle" "trip" "I" (.int (1 : Int32))) (fp25 : Fld Z h0 el2 "com/example/nudo/nudo/Vehicle" "path" "[Lcom/example/nudo/nudo/CellLink;" (.ref pa1)) (fp26 : Fld Z h0 el2 "com/example/nudo/nudo/Vehicle" "departureStep" "I" (.int d1)) (fp27 : Arv Z h0 pa1 kp1 (.object "com/example/nudo/nudo/CellLink") (0 : Int32) [] .null) (fp28 : Exa Z h0 el3 "com/example/nudo/nudo/Vehicle") (fp29 : Fld Z h0 el3 "com/example/nudo/nudo/Vehicle" "position" "I" (.int (-1 : Int32))) (fp30 : Fld Z h0 el3 "com/example/nudo/nudo/Vehicle" "exitStep" "I" (.int x2)) (fp31 : Fld Z h0 el3 "com/example/nudo/nudo/Vehicle" "trip" "I" (.int (2 : Int32))) (fp32 : Fld Z h0 el3 "com/example/nudo/nudo/Vehicle" "path" "[Lcom/example/nudo/nudo/CellLink;" (.ref pa2)) (fp33 : Fld Z h0 el3 "com/example/nudo/nudo/Vehicle" "departureStep" "I" (.int d2)) (fp34 : Arv Z h0 pa2 kp2 (.object "com/example/nudo/nudo/CellLink") (0 : Int32) [] .null) (big_a1 : Z.heap.size ≤ a1) :
    own_MF l Z h0 (⟨"com/example/nudo/nudo/LoadingResult", "<init>", "(ILjava/util/List;III)V"⟩ : MethodName) prog_30_method_1_code 10 none ({ frames := 3, cells := 8, slots := 16, locals := 38 } : Room) #[(.ref a1), (.int p2), (.ref a3), (.int p4), (.int p5), (.int p6)] (Q_lrinit3 Z wd kd a1 p2 a3 p4 p5 p6 mc b k el1 x0 d0 pa0 kp0 el2 x1 d1 pa1 kp1 el3 x2 d2 pa2 kp2 h0) ws := by
  refine own_met (Q := (Q_lrinit3 Z wd kd a1 p2 a3 p4 p5 p6 mc b k el1 x0 d0 pa0 kp0 el2 x1 d1 pa1 kp1 el3 x2 d2 pa2 kp2 h0)) _ _ (plainFor_of_name own_pn_7) ?_
  intro p e s m below meth c T X0 hx hby hml hret hlk hZ hown hnm e0
  replace hown : s.vm.findClass "com/example/nudo/nudo/LoadingResult" = some m.cls := hown
  replace hnm : meth.name = "<init>" := hnm
  have hml : c.maxLocals = 10 := hml
  have N0 := Fr.nil Z.heap.size
  have K0 := Keep.refl h0 [a1]
  refine own_go (fun _ k => castTop (ef_lrinit3 m a1 p2 a3 p4 p5 p6) k) ?_
  have ne1 : a3 ≠ a1 := (ne_exa fp9 fp0 (by decide))
  have ne2 : b ≠ a1 := (Ne.symm (Exa.neArv fp0 fp13 (ow28 hw)))
  have ne3 : el1 ≠ a1 := (ne_exa fp14 fp0 (by decide))
  have ne4 : pa0 ≠ a1 := (Ne.symm (Exa.neArv fp0 fp20 (ow28 hw)))
  have ne5 : el2 ≠ a1 := (ne_exa fp21 fp0 (by decide))
  have ne6 : pa1 ≠ a1 := (Ne.symm (Exa.neArv fp0 fp27 (ow28 hw)))
  have ne7 : el3 ≠ a1 := (ne_exa fp28 fp0 (by decide))
  have ne8 : pa2 ≠ a1 := (Ne.symm (Exa.neArv fp0 fp34 (ow28 hw)))
  show own_Go p e below s _ _ _ (T.setTop (mkF m 0 #[rv a1, iv p2, rv a3, iv p4, iv p5, iv p6, .unset, .unset, .unset, .unset] []))
  refine own_go (fun _ k => XS.aloadN X0.here hx rfl (hb hby d5_0) rfl rfl k) ?_
  obtain ⟨T9, X9, e9, st9⟩ := initO X0 hx hZ hown (ow33 hw) (ow20 hw) (ow21 hw) e0 (g := (mkF m 1 #[rv a1, iv p2, rv a3, iv p4, iv p5, iv p6, .unset, .unset, .unset, .unset] [(.ref a1)])) rfl (by rw [hml]; rfl) rfl (hb hby d5_1) (by decide) (W := 0) (by show 2 * 0 + _ ≤ _; exact Nat.le_of_eq rfl) (by decide)
  refine own_go st9 ?_
  clear st9 X0 e0
  refine own_go (fun _ k => XS.aloadN X9.here hx rfl (hb hby d5_4) rfl rfl k) ?_
  refine own_go (fun _ k => XS.iloadN X9.here hx rfl (hb hby d5_5) rfl k) ?_
  obtain ⟨T10, h10, X10, e10, W10, st10⟩ := putF X9 hx hZ hown (host := "") (Or.inl (ow34 hw)) Via.refl e9 fp1 fp0 (Or.inr ⟨(ow35 hw), rfl, hnm⟩) (ow28 hw) (ty := .int) own_fd0 rfl rfl (g := (mkF m 6 #[rv a1, iv p2, rv a3, iv p4, iv p5, iv p6, .unset, .unset, .unset, .unset] [(.int p2), (.ref a1)])) rfl rfl (hb hby d5_6)
  refine own_go st10 ?_
  clear st10 X9 e9
  replace N0 := Fr.snoc X10 N0 big_a1
  replace fp0 := fp0.wr W10
  replace fp1 := fp1.same W10
  replace fp2 := fp2.other W10 (.inr (own_sn45 hw))
  replace fp3 := fp3.other W10 (.inr (own_sn46 hw))
  replace fp4 := fp4.other W10 (.inr (own_sn47 hw))
  replace fp5 := fp5.other W10 (.inr (own_sn48 hw))
  replace fp6 := fp6.other W10 (.inr (own_sn49 hw))
  replace fp7 := fp7.other W10 (.inr (own_sn50 hw))
  replace fp8 := fp8.other W10 (.inr (own_sn51 hw))
  replace O0 := own_oldWr O0 W10 big_a1
  replace K0 := K0.wr W10 (Or.inl (List.mem_of_getElem? (i := 0) rfl))
  clear W10
  refine own_go (fun _ k => XS.aloadN X10.here hx rfl (hb hby d5_9) rfl rfl k) ?_
  refine own_go (fun _ k => XS.aloadN X10.here hx rfl (hb hby d5_10) rfl rfl k) ?_
  show own_Go p e below s _ _ _ (T10.setTop (mkF m 11 #[rv a1, iv p2, rv a3, iv p4, iv p5, iv p6, .unset, .unset, .unset, .unset] [(.ref a3), (.ref a1)]))
  obtain ⟨v11, T11, L11, X11, hQ11, st11⟩ := own_callF (xi := (⟨"java/util/List", "size", "()I"⟩ : MethodName)) (y := (⟨"java/util/ArrayList", "size", "()I"⟩ : MethodName)) X10 hx hZ hown (ow36 hw) (ow37 hw) (ow38 hw) (ow39 hw) (ow40 hw) (ow41 hw) (ow42 hw) (ow43 hw) (ow3 hw) (ow44 hw) (by decide) (rm_alsize l Z a0 hw oDE oDV [] a3 (3 : Int32) h10 O0 (fp10.keep K0 (ninS ne1 nin0))) 1 0 0 (by show _ ≤ 8; omega) (by show _ ≤ 16; omega) e10 (fp9.keep K0) (g := (mkF m 11 #[rv a1, iv p2, rv a3, iv p4, iv p5, iv p6, .unset, .unset, .unset, .unset] [(.ref a3), (.ref a1)])) rfl (by rw [hml]; rfl) [] [(.ref a1)] (lenOf own_pd_9 rfl) rfl rfl (hb hby d5_11)
  obtain ⟨rfl, Nc13, Kc12⟩ := hQ11
  refine own_go st11 ?_
  clear st11 X10 e10
  replace N0 := Fr.app N0 Nc13
  clear Nc13
  obtain ⟨T14, h14, k14, X14, e14, E14, A14, B14, st14⟩ := newPE (aty := .int) X11 hx hZ (ow47 hw) Kc12 (g := (mkF m 16 #[rv a1, iv p2, rv a3, iv p4, iv p5, iv p6, .unset, .unset, .unset, .unset] [(.int (3 : Int32)), (.ref a1)])) rfl (hb hby d5_16) rfl (by decide) (cap := 3) (by decide) (by decide) (by show _ ≤ 8; omega) (by show _ ≤ 16; omega) (ad := "[I") (by decide)
  obtain ⟨b14, g14⟩ : ∃ z, z = h10.size := ⟨_, rfl⟩
  rw [← g14] at A14 B14 st14
  refine own_go st14 ?_
  clear st14 X11 Kc12
  have ge14 := Nat.le_of_eq g14.symm
  have ne15 : a1 ≠ b14 := Nat.ne_of_lt (Nat.lt_of_lt_of_le fp0.lt ge14)
  have big16 : Z.heap.size ≤ b14 := Nat.le_trans O0.1 ge14
  have sz17 : h0.size ≤ b14 := Nat.le_trans K0.1 ge14
  replace fp0 := fp0.ext E14
  replace fp1 := fp1.ext E14
  replace fp2 := fp2.ext E14
  replace fp3 := fp3.ext E14
  replace fp4 := fp4.ext E14
  replace fp5 := fp5.ext E14
  replace fp6 := fp6.ext E14
  replace fp7 := fp7.ext E14
  replace fp8 := fp8.ext E14
  replace O0 := own_oldExt O0 E14
  replace K0 := K0.ext E14
  clear E14
  have f18 : Arv Z h14 b14 k14 .int (3 : Int32) [(.int (0 : Int32)), (.int (0 : Int32)), (.int (0 : Int32))] (.int (0 : Int32)) := (Arv.new A14 (by decide)).pad (pad_rep [] (.int (0 : Int32)) 3)
  obtain ⟨T19, h19, X19, e19, W19, st19⟩ := putF X14 hx hZ hown (host := "") (Or.inl (ow48 hw)) Via.refl e14 fp2 fp0 (Or.inr ⟨(ow49 hw), rfl, hnm⟩) (ow28 hw) (ty := (.array .int)) own_fd4 rfl rfl (g := (mkF m 18 #[rv a1, iv p2, rv a3, iv p4, iv p5, iv p6, .unset, .unset, .unset, .unset] [(.ref b14), (.ref a1)])) rfl rfl (hb hby d5_18)
  refine own_go st19 ?_
  clear st19 X14 e14
  replace N0 := Fr.snoc X19 N0 big_a1
  replace fp0 := fp0.wr W19
  replace fp1 := fp1.other W19 (.inr (own_sn45 hw).symm)
  replace fp2 := fp2.same W19
  replace fp3 := fp3.other W19 (.inr (own_sn52 hw))
  replace fp4 := fp4.other W19 (.inr (own_sn53 hw))
  replace fp5 := fp5.other W19 (.inr (own_sn54 hw))
  replace fp6 := fp6.other W19 (.inr (own_sn55 hw))
  replace fp7 := fp7.other W19 (.inr (own_sn56 hw))
  replace fp8 := fp8.other W19 (.inr (own_sn57 hw))
  replace B14 := B14.wr W19
  replace f18 := f18.other W19 ne15.symm
  replace O0 := own_oldWr O0 W19 big_a1
  replace K0 := K0.wr W19 (Or.inl (List.mem_of_getElem? (i := 0) rfl))
  clear W19
  refine own_go (fun _ k => XS.aloadN X19.here hx rfl (hb hby d5_21) rfl rfl k) ?_
  refine own_go (fun _ k => XS.aloadN X19.here hx rfl (hb hby d5_22) rfl rfl k) ?_
  obtain ⟨v20, T20, L20, X20, hQ20, st20⟩ := own_callF (xi := (⟨"java/util/List", "size", "()I"⟩ : MethodName)) (y := (⟨"java/util/ArrayList", "size", "()I"⟩ : MethodName)) X19 hx hZ hown (ow36 hw) (ow37 hw) (ow38 hw) (ow39 hw) (ow40 hw) (ow41 hw) (ow42 hw) (ow43 hw) (ow3 hw) (ow44 hw) (by decide) (rm_alsize l Z a0 hw oDE oDV [] a3 (3 : Int32) h19 O0 (fp10.keep K0 (ninS ne1 nin0))) 1 0 0 (by show _ ≤ 8; omega) (by show _ ≤ 16; omega) e19 (fp9.keep K0) (g := (mkF m 23 #[rv a1, iv p2, rv a3, iv p4, iv p5, iv p6, .unset, .unset, .unset, .unset] [(.ref a3), (.ref a1)])) rfl (by rw [hml]; rfl) [] [(.ref a1)] (lenOf own_pd_9 rfl) rfl rfl (hb hby d5_23)
  obtain ⟨rfl, Nc22, Kc21⟩ := hQ20
  refine own_go st20 ?_
  clear st20 X19 e19
  replace N0 := Fr.app N0 Nc22
  clear Nc22
  obtain ⟨T23, h23, k23, X23, e23, E23, A23, B23, st23⟩ := newPE (aty := .int) X20 hx hZ (ow47 hw) Kc21 (g := (mkF m 28 #[rv a1, iv p2, rv a3, iv p4, iv p5, iv p6, .unset, .unset, .unset, .unset] [(.int (3 : Int32)), (.ref a1)])) rfl (hb hby d5_28) rfl (by decide) (cap := 3) (by decide) (by decide) (by show _ ≤ 8; omega) (by show _ ≤ 16; omega) (ad := "[I") (by decide)
  obtain ⟨b23, g23⟩ : ∃ z, z = h19.size := ⟨_, rfl⟩
  rw [← g23] at A23 B23 st23
  refine own_go st23 ?_
  clear st23 X20 Kc21
  have ge23 := Nat.le_of_eq g23.symm
  have ne24 : a1 ≠ b23 := Nat.ne_of_lt (Nat.lt_of_lt_of_le fp0.lt ge23)
  have ne25 : b14 ≠ b23 := Nat.ne_of_lt (Nat.lt_of_lt_of_le B14.lt ge23)
  have big26 : Z.heap.size ≤ b23 := Nat.le_trans O0.1 ge23
  have sz27 : h0.size ≤ b23 := Nat.le_trans K0.1 ge23
  replace fp0 := fp0.ext E23
  replace fp1 := fp1.ext E23
  replace fp2 := fp2.ext E23
  replace fp3 := fp3.ext E23
  replace fp4 := fp4.ext E23
  replace fp5 := fp5.ext E23
  replace fp6 := fp6.ext E23
  replace fp7 := fp7.ext E23
  replace fp8 := fp8.ext E23
  replace B14 := B14.ext E23
  replace f18 := f18.ext E23
  replace O0 := own_oldExt O0 E23
  replace K0 := K0.ext E23
  clear E23
  have f28 : Arv Z h23 b23 k23 .int (3 : Int32) [(.int (0 : Int32)), (.int (0 : Int32)), (.int (0 : Int32))] (.int (0 : Int32)) := (Arv.new A23 (by decide)).pad (pad_rep [] (.int (0 : Int32)) 3)
  show own_Go p e below s _ _ _ (T23.setTop (mkF m 30 #[rv a1, iv p2, rv a3, iv p4, iv p5, iv p6, .unset, .unset, .unset, .unset] [(.ref b23), (.ref a1)]))
  obtain ⟨T29, h29, X29, e29, W29, st29⟩ := putF X23 hx hZ hown (host := "") (Or.inl (ow50 hw)) Via.refl e23 fp3 fp0 (Or.inr ⟨(ow51 hw), rfl, hnm⟩) (ow28 hw) (ty := (.array .int)) own_fd4 rfl rfl (g := (mkF m 30 #[rv a1, iv p2, rv a3, iv p4, iv p5, iv p6, .unset, .unset, .unset, .unset] [(.ref b23), (.ref a1)])) rfl rfl (hb hby d5_30)
  refine own_go st29 ?_
  clear st29 X23 e23
  replace N0 := Fr.snoc X29 N0 big_a1
  replace fp0 := fp0.wr W29
  replace fp1 := fp1.other W29 (.inr (own_sn46 hw).symm)
  replace fp2 := fp2.other W29 (.inr (own_sn52 hw).symm)
  replace fp3 := fp3.same W29
  replace fp4 := fp4.other W29 (.inr (own_sn58 hw))
  replace fp5 := fp5.other W29 (.inr (own_sn59 hw))
  replace fp6 := fp6.other W29 (.inr (own_sn60 hw))
  replace fp7 := fp7.other W29 (.inr (own_sn61 hw))
  replace fp8 := fp8.other W29 (.inr (own_sn62 hw))
  replace B14 := B14.wr W29
  replace f18 := f18.other W29 ne15.symm
  replace B23 := B23.wr W29
  replace f28 := f28.other W29 ne24.symm
  replace O0 := own_oldWr O0 W29 big_a1
  replace K0 := K0.wr W29 (Or.inl (List.mem_of_getElem? (i := 0) rfl))
  clear W29
  refine own_go (fun _ k => XS.aloadN X29.here hx rfl (hb hby d5_33) rfl rfl k) ?_
  refine own_go (fun _ k => XS.aloadN X29.here hx rfl (hb hby d5_34) rfl rfl k) ?_
  obtain ⟨v30, T30, L30, X30, hQ30, st30⟩ := own_callF (xi := (⟨"java/util/List", "size", "()I"⟩ : MethodName)) (y := (⟨"java/util/ArrayList", "size", "()I"⟩ : MethodName)) X29 hx hZ hown (ow36 hw) (ow37 hw) (ow38 hw) (ow39 hw) (ow40 hw) (ow41 hw) (ow42 hw) (ow43 hw) (ow3 hw) (ow44 hw) (by decide) (rm_alsize l Z a0 hw oDE oDV [] a3 (3 : Int32) h29 O0 (fp10.keep K0 (ninS ne1 nin0))) 1 0 0 (by show _ ≤ 8; omega) (by show _ ≤ 16; omega) e29 (fp9.keep K0) (g := (mkF m 35 #[rv a1, iv p2, rv a3, iv p4, iv p5, iv p6, .unset, .unset, .unset, .unset] [(.ref a3), (.ref a1)])) rfl (by rw [hml]; rfl) [] [(.ref a1)] (lenOf own_pd_9 rfl) rfl rfl (hb hby d5_35)
  obtain ⟨rfl, Nc32, Kc31⟩ := hQ30
  refine own_go st30 ?_
  clear st30 X29 e29
  replace N0 := Fr.app N0 Nc32
  clear Nc32
  obtain ⟨T33, h33, k33, X33, e33, E33, A33, B33, st33⟩ := newPE (aty := .int) X30 hx hZ (ow47 hw) Kc31 (g := (mkF m 40 #[rv a1, iv p2, rv a3, iv p4, iv p5, iv p6, .unset, .unset, .unset, .unset] [(.int (3 : Int32)), (.ref a1)])) rfl (hb hby d5_40) rfl (by decide) (cap := 3) (by decide) (by decide) (by show _ ≤ 8; omega) (by show _ ≤ 16; omega) (ad := "[I") (by decide)
  obtain ⟨b33, g33⟩ : ∃ z, z = h29.size := ⟨_, rfl⟩
  rw [← g33] at A33 B33 st33
  refine own_go st33 ?_
  clear st33 X30 Kc31
  have ge33 := Nat.le_of_eq g33.symm
  have ne34 : a1 ≠ b33 := Nat.ne_of_lt (Nat.lt_of_lt_of_le fp0.lt ge33)
  have ne35 : b14 ≠ b33 := Nat.ne_of_lt (Nat.lt_of_lt_of_le B14.lt ge33)
  have ne36 : b23 ≠ b33 := Nat.ne_of_lt (Nat.lt_of_lt_of_le B23.lt ge33)
  have big37 : Z.heap.size ≤ b33 := Nat.le_trans O0.1 ge33
  have sz38 : h0.size ≤ b33 := Nat.le_trans K0.1 ge33
  replace fp0 := fp0.ext E33
  replace fp1 := fp1.ext E33
  replace fp2 := fp2.ext E33
  replace fp3 := fp3.ext E33
  replace fp4 := fp4.ext E33
  replace fp5 := fp5.ext E33
  replace fp6 := fp6.ext E33
  replace fp7 := fp7.ext E33
  replace fp8 := fp8.ext E33
  replace B14 := B14.ext E33
  replace f18 := f18.ext E33
  replace B23 := B23.ext E33
  replace f28 := f28.ext E33
  replace O0 := own_oldExt O0 E33
  replace K0 := K0.ext E33
  clear E33
  have f39 : Arv Z h33 b33 k33 .int (3 : Int32) [(.int (0 : Int32)), (.int (0 : Int32)), (.int (0 : Int32))] (.int (0 : Int32)) := (Arv.new A33 (by decide)).pad (pad_rep [] (.int (0 : Int32)) 3)
  obtain ⟨T40, h40, X40, e40, W40, st40⟩ := putF X33 hx hZ hown (host := "") (Or.inl (ow52 hw)) Via.refl e33 fp4 fp0 (Or.inr ⟨(ow53 hw), rfl, hnm⟩) (ow28 hw) (ty := (.array .int)) own_fd4 rfl rfl (g := (mkF m 42 #[rv a1, iv p2, rv a3, iv p4, iv p5, iv p6, .unset, .unset, .unset, .unset] [(.ref b33), (.ref a1)])) rfl rfl (hb hby d5_42)
  refine own_go st40 ?_
  clear st40 X33 e33
  replace N0 := Fr.snoc X40 N0 big_a1
  replace fp0 := fp0.wr W40
  replace fp1 := fp1.other W40 (.inr (own_sn47 hw).symm)
  replace fp2 := fp2.other W40 (.inr (own_sn53 hw).symm)
  replace fp3 := fp3.other W40 (.inr (own_sn58 hw).symm)
  replace fp4 := fp4.same W40
  replace fp5 := fp5.other W40 (.inr (own_sn63 hw))
  replace fp6 := fp6.other W40 (.inr (own_sn64 hw))
  replace fp7 := fp7.other W40 (.inr (own_sn65 hw))
  replace fp8 := fp8.other W40 (.inr (own_sn66 hw))
  replace B14 := B14.wr W40
  replace f18 := f18.other W40 ne15.symm
  replace B23 := B23.wr W40
  replace f28 := f28.other W40 ne24.symm
  replace B33 := B33.wr W40
  replace f39 := f39.other W40 ne34.symm
  replace O0 := own_oldWr O0 W40 big_a1
  replace K0 := K0.wr W40 (Or.inl (List.mem_of_getElem? (i := 0) rfl))
  clear W40
  refine own_go (fun _ k => XS.aloadN X40.here hx rfl (hb hby d5_45) rfl rfl k) ?_
  show own_Go p e below s _ _ _ (T40.setTop (mkF m 46 #[rv a1, iv p2, rv a3, iv p4, iv p5, iv p6, .unset, .unset, .unset, .unset] [(.ref a1)]))
  refine own_go (fun _ k => XS.aloadN X40.here hx rfl (hb hby d5_46) rfl rfl k) ?_
  obtain ⟨v41, T41, L41, X41, hQ41, st41⟩ := own_callF (xi := (⟨"java/util/List", "size", "()I"⟩ : MethodName)) (y := (⟨"java/util/ArrayList", "size", "()I"⟩ : MethodName)) X40 hx hZ hown (ow36 hw) (ow37 hw) (ow38 hw) (ow39 hw) (ow40 hw) (ow41 hw) (ow42 hw) (ow43 hw) (ow3 hw) (ow44 hw) (by decide) (rm_alsize l Z a0 hw oDE oDV [] a3 (3 : Int32) h40 O0 (fp10.keep K0 (ninS ne1 nin0))) 1 0 0 (by show _ ≤ 8; omega) (by show _ ≤ 16; omega) e40 (fp9.keep K0) (g := (mkF m 47 #[rv a1, iv p2, rv a3, iv p4, iv p5, iv p6, .unset, .unset, .unset, .unset] [(.ref a3), (.ref a1)])) rfl (by rw [hml]; rfl) [] [(.ref a1)] (lenOf own_pd_9 rfl) rfl rfl (hb hby d5_47)
  obtain ⟨rfl, Nc43, Kc42⟩ := hQ41
  refine own_go st41 ?_
  clear st41 X40 e40
  replace N0 := Fr.app N0 Nc43
  clear Nc43
  obtain ⟨T44, h44, k44, X44, e44, E44, A44, B44, O44, st44⟩ := newRA X41 hx hZ hown (ty := .int) (by decide) (ow54 hw) (ow55 hw) Kc42 (g := (mkF m 52 #[rv a1, iv p2, rv a3, iv p4, iv p5, iv p6, .unset, .unset, .unset, .unset] [(.int (3 : Int32)), (.ref a1)])) rfl (hb hby d5_52) rfl (by decide) (cap := 3) (by decide) (by decide) (by show _ ≤ 8; omega) (by show _ ≤ 16; omega) (ad := "[[I") (by decide)
  obtain ⟨b44, g44⟩ : ∃ z, z = h40.size := ⟨_, rfl⟩
  rw [← g44] at A44 B44 st44
  refine own_go st44 ?_
  clear st44 X41 Kc42
  have ge44 := Nat.le_of_eq g44.symm
  have ne45 : a1 ≠ b44 := Nat.ne_of_lt (Nat.lt_of_lt_of_le fp0.lt ge44)
  have ne46 : b14 ≠ b44 := Nat.ne_of_lt (Nat.lt_of_lt_of_le B14.lt ge44)
  have ne47 : b23 ≠ b44 := Nat.ne_of_lt (Nat.lt_of_lt_of_le B23.lt ge44)
  have ne48 : b33 ≠ b44 := Nat.ne_of_lt (Nat.lt_of_lt_of_le B33.lt ge44)
  have big49 : Z.heap.size ≤ b44 := Nat.le_trans O0.1 ge44
  have sz50 : h0.size ≤ b44 := Nat.le_trans K0.1 ge44
  replace fp0 := fp0.ext E44
  replace fp1 := fp1.ext E44
  replace fp2 := fp2.ext E44
  replace fp3 := fp3.ext E44
  replace fp4 := fp4.ext E44
  replace fp5 := fp5.ext E44
  replace fp6 := fp6.ext E44
  replace fp7 := fp7.ext E44
  replace fp8 := fp8.ext E44
  replace B14 := B14.ext E44
  replace f18 := f18.ext E44
  replace B23 := B23.ext E44
  replace f28 := f28.ext E44
  replace B33 := B33.ext E44
  replace f39 := f39.ext E44
  replace O0 := own_oldExt O0 E44
  replace K0 := K0.ext E44
  clear E44
  have f51 : Arv Z h44 b44 k44 (.array .int) (3 : Int32) [.null, .null, .null] .null := (Arv.new A44 (by decide)).pad (pad_rep [] .null 3)
  obtain ⟨T52, h52, X52, e52, W52, st52⟩ := putF X44 hx hZ hown (host := "") (Or.inl (ow56 hw)) Via.refl e44 fp5 fp0 (Or.inr ⟨(ow57 hw), rfl, hnm⟩) (ow28 hw) (ty := (.array (.array .int))) own_fd6 rfl rfl (g := (mkF m 55 #[rv a1, iv p2, rv a3, iv p4, iv p5, iv p6, .unset, .unset, .unset, .unset] [(.ref b44), (.ref a1)])) rfl rfl (hb hby d5_55)
  refine own_go st52 ?_
  clear st52 X44 e44
  replace N0 := Fr.snoc X52 N0 big_a1
  replace fp0 := fp0.wr W52
  replace fp1 := fp1.other W52 (.inr (own_sn48 hw).symm)
  replace fp2 := fp2.other W52 (.inr (own_sn54 hw).symm)
  replace fp3 := fp3.other W52 (.inr (own_sn59 hw).symm)
  replace fp4 := fp4.other W52 (.inr (own_sn63 hw).symm)
  replace fp5 := fp5.same W52
  replace fp6 := fp6.other W52 (.inr (own_sn67 hw))
  replace fp7 := fp7.other W52 (.inr (own_sn68 hw))
  replace fp8 := fp8.other W52 (.inr (own_sn69 hw))
  replace B14 := B14.wr W52
  replace f18 := f18.other W52 ne15.symm
  replace B23 := B23.wr W52
  replace f28 := f28.other W52 ne24.symm
  replace B33 := B33.wr W52
  replace f39 := f39.other W52 ne34.symm
  replace B44 := B44.wr W52
  replace f51 := f51.other W52 ne45.symm
  replace O0 := own_oldWr O0 W52 big_a1
  replace K0 := K0.wr W52 (Or.inl (List.mem_of_getElem? (i := 0) rfl))
  clear W52
  refine own_go (fun _ k => XS.aloadN X52.here hx rfl (hb hby d5_58) rfl rfl k) ?_
  obtain ⟨v53, T53, L53, X53, hQ53, st53⟩ := own_callF (xi := (⟨"java/util/List", "iterator", "()Ljava/util/Iterator;"⟩ : MethodName)) (y := (⟨"java/util/ArrayList", "iterator", "()Ljava/util/Iterator;"⟩ : MethodName)) X52 hx hZ hown (ow58 hw) (ow59 hw) (ow60 hw) (ow61 hw) (ow62 hw) (ow63 hw) (ow64 hw) (ow43 hw) (ow3 hw) (ow65 hw) (by decide) (rm_aliter l Z a0 hw oDE oDV [] a3 mc h52 O0 (fp9.keep K0) (fp12.keep K0 (ninS ne1 nin0))) 0 1 4 (by show _ ≤ 8; omega) (by show _ ≤ 16; omega) e52 (fp9.keep K0) (g := (mkF m 59 #[rv a1, iv p2, rv a3, iv p4, iv p5, iv p6, .unset, .unset, .unset, .unset] [(.ref a3)])) rfl (by rw [hml]; rfl) [] [] (lenOf own_pd_10 rfl) rfl rfl (hb hby d5_59)
  obtain ⟨w54, rfl, Nc62, Kc61, hb55, f56, f57, f58, f59, f60⟩ := hQ53
  refine own_go st53 ?_
  clear st53 X52 e52
  replace N0 := Fr.app N0 Nc62
  clear Nc62
  have ne63 : a1 ≠ w54 := Nat.ne_of_lt (Nat.lt_of_lt_of_le fp0.lt hb55)
  have ne64 : b14 ≠ w54 := Nat.ne_of_lt (Nat.lt_of_lt_of_le B14.lt hb55)
  have ne65 : b23 ≠ w54 := Nat.ne_of_lt (Nat.lt_of_lt_of_le B23.lt hb55)
  have ne66 : b33 ≠ w54 := Nat.ne_of_lt (Nat.lt_of_lt_of_le B33.lt hb55)
  have ne67 : b44 ≠ w54 := Nat.ne_of_lt (Nat.lt_of_lt_of_le B44.lt hb55)
  have big68 : Z.heap.size ≤ w54 := Nat.le_trans O0.1 hb55
  have sz69 : h0.size ≤ w54 := Nat.le_trans K0.1 hb55
  replace fp0 := fp0.keep Kc61
  replace fp1 := fp1.keep Kc61 nin0
  replace fp2 := fp2.keep Kc61 nin0
  replace fp3 := fp3.keep Kc61 nin0
  replace fp4 := fp4.keep Kc61 nin0
  replace fp5 := fp5.keep Kc61 nin0
  replace fp6 := fp6.keep Kc61 nin0
  replace fp7 := fp7.keep Kc61 nin0
  replace fp8 := fp8.keep Kc61 nin0
  replace B14 := B14.keep Kc61
  replace f18 := f18.keep Kc61 nin0
  replace B23 := B23.keep Kc61
  replace f28 := f28.keep Kc61 nin0
  replace B33 := B33.keep Kc61
  replace f39 := f39.keep Kc61 nin0
  replace B44 := B44.keep Kc61
  replace f51 := f51.keep Kc61 nin0
  replace O0 := own_oldKeep O0 Kc61 all0
  replace K0 := K0.trans Kc61 all0
  clear Kc61
  refine own_go (fun _ k => XS.astore X53.here hx rfl (hb hby d5_64) rfl rfl (l' := #[rv a1, iv p2, rv a3, iv p4, iv p5, iv p6, rv w54, .unset, .unset, .unset]) rfl k) ?_
  show own_Go p e below s _ _ _ (T53.setTop (mkF m 66 #[rv a1, iv p2, rv a3, iv p4, iv p5, iv p6, rv w54, .unset, .unset, .unset] []))
  refine own_go (fun _ k => XS.aload X53.here hx rfl (hb hby d5_66) rfl rfl k) ?_
  obtain ⟨v70, T70, L70, X70, hQ70, st70⟩ := own_callF (xi := (⟨"java/util/Iterator", "hasNext", "()Z"⟩ : MethodName)) (y := (⟨"java/util/ArrayList$Itr", "hasNext", "()Z"⟩ : MethodName)) X53 hx hZ hown (ow82 hw) (ow83 hw) (ow84 hw) (ow85 hw) (ow86 hw) (ow87 hw) (ow88 hw) (ow89 hw) (ow68 hw) (ow90 hw) (by decide) (rm_hn_3_0 l Z a0 hw oDE oDV [] w54 a3 T53.heap O0 f57 f58 (fp10.keep K0 (ninS ne1 nin0))) 0 0 0 (by show _ ≤ 8; omega) (by show _ ≤ 16; omega) (rfl : T53.heap = T53.heap) f56 (g := (mkF m 68 #[rv a1, iv p2, rv a3, iv p4, iv p5, iv p6, rv w54, .unset, .unset, .unset] [(.ref w54)])) rfl (by rw [hml]; rfl) [] [] (lenOf own_pd_11 rfl) rfl rfl (hb hby d5_68)
  obtain ⟨rfl, Nc72, Kc71⟩ := hQ70
  refine own_go st70 ?_
  clear st70 X53
  replace N0 := Fr.app N0 Nc72
  clear Nc72
  refine own_go (fun _ k => XS.ifNo X70.here hx rfl (hb hby d5_73) rfl ((if0 _ _).trans (feq (by decide : ¬ ((1 : Int32) = (0 : Int32)))).1) k) ?_
  refine own_go (fun _ k => XS.aload X70.here hx rfl (hb hby d5_76) rfl rfl k) ?_
  obtain ⟨v73, T73, L73, X73, hQ73, st73⟩ := own_callF (xi := (⟨"java/util/Iterator", "next", "()Ljava/lang/Object;"⟩ : MethodName)) (y := (⟨"java/util/ArrayList$Itr", "next", "()Ljava/lang/Object;"⟩ : MethodName)) X70 hx hZ hown (ow176 hw) (ow177 hw) (ow178 hw) (ow179 hw) (ow180 hw) (ow181 hw) (ow182 hw) (ow89 hw) (ow68 hw) (ow183 hw) (by decide) (rm_nx_3_0 l Z a0 hw oDE oDV [] w54 a3 mc (-1 : Int32) b k el1 el2 el3 T53.heap O0 f56 f57 f58 f59 f60 (fp9.keep K0) (fp10.keep K0 (ninS ne1 nin0)) (fp11.keep K0 (ninS ne1 nin0)) (fp12.keep K0 (ninS ne1 nin0)) (fp13.keep K0 (ninS ne2 nin0)) big68) 0 0 0 (by show _ ≤ 8; omega) (by show _ ≤ 16; omega) Kc71 f56 (g := (mkF m 78 #[rv a1, iv p2, rv a3, iv p4, iv p5, iv p6, rv w54, .unset, .unset, .unset] [(.ref w54)])) rfl (by rw [hml]; rfl) [] [] (lenOf own_pd_12 rfl) rfl rfl (hb hby d5_78)
  obtain ⟨rfl, Nc80, Kc79, f74, f75, f76, f77, f78⟩ := hQ73
  refine own_go st73 ?_
  clear st73 X70 Kc71
  replace N0 := Fr.app N0 Nc80
  clear Nc80
  replace fp0 := fp0.keep Kc79
  replace fp1 := fp1.keep Kc79 (ninS ne63 nin0)
  replace fp2 := fp2.keep Kc79 (ninS ne63 nin0)
  replace fp3 := fp3.keep Kc79 (ninS ne63 nin0)
  replace fp4 := fp4.keep Kc79 (ninS ne63 nin0)
  replace fp5 := fp5.keep Kc79 (ninS ne63 nin0)
  replace fp6 := fp6.keep Kc79 (ninS ne63 nin0)
  replace fp7 := fp7.keep Kc79 (ninS ne63 nin0)
  replace fp8 := fp8.keep Kc79 (ninS ne63 nin0)
  replace B14 := B14.keep Kc79
  replace f18 := f18.keep Kc79 (ninS ne64 nin0)
  replace B23 := B23.keep Kc79
  replace f28 := f28.keep Kc79 (ninS ne65 nin0)
  replace B33 := B33.keep Kc79
  replace f39 := f39.keep Kc79 (ninS ne66 nin0)
  replace B44 := B44.keep Kc79
  replace f51 := f51.keep Kc79 (ninS ne67 nin0)
  replace f56 := f56.keep Kc79
  clear f57
  clear f58
  clear f59
  clear f60
  replace O0 := own_oldKeep O0 Kc79 (allS big68 all0)
  replace K0 := K0.trans Kc79 (allS (Or.inr sz69) all0)
  clear Kc79
  obtain ⟨T81, X81, e81, st81⟩ := castY X73 hx hZ hown (ow190 hw) (rfl : T73.heap = T73.heap) (Ins.self (fp14.keep K0)) (g := (mkF m 83 #[rv a1, iv p2, rv a3, iv p4, iv p5, iv p6, rv w54, .unset, .unset, .unset] [(.ref el1)])) rfl rfl (hb hby d5_83)
  refine own_go st81 ?_
  clear st81 X73
  refine own_go (fun _ k => XS.astore X81.here hx rfl (hb hby d5_86) rfl rfl (l' := #[rv a1, iv p2, rv a3, iv p4, iv p5, iv p6, rv w54, rv el1, .unset, .unset]) rfl k) ?_
  show own_Go p e below s _ _ _ (T81.setTop (mkF m 88 #[rv a1, iv p2, rv a3, iv p4, iv p5, iv p6, rv w54, rv el1, .unset, .unset] []))
  refine own_go (fun _ k => XS.aloadN X81.here hx rfl (hb hby d5_88) rfl rfl k) ?_
  obtain ⟨T82, X82, e82, st82⟩ := getF X81 hx hZ hown (host := "") (Or.inl (ow48 hw)) Via.refl e81 fp2 (g := (mkF m 89 #[rv a1, iv p2, rv a3, iv p4, iv p5, iv p6, rv w54, rv el1, .unset, .unset] [(.ref a1)])) rfl rfl (hb hby d5_89)
  refine own_go st82 ?_
  clear st82 X81 e81
  refine own_go (fun _ k => XS.aload X82.here hx rfl (hb hby d5_92) rfl rfl k) ?_
  obtain ⟨v83, T83, L83, X83, hQ83, st83⟩ := own_callV (y := (⟨"com/example/nudo/nudo/Vehicle", "trip", "()I"⟩ : MethodName)) (z := (⟨"com/example/nudo/nudo/Vehicle", "trip", "()I"⟩ : MethodName)) X82 hx hZ hown (ow192 hw) (ow193 hw) (notFace_of_selects (args := #[]) (mvT hZ (ow195 hw))) (ow195 hw) (ow194 hw) (ow111 hw) (ow196 hw) (rm_vtrip l Z a0 hw oDE oDV [] el1 (0 : Int32) T73.heap O0 (fp17.keep K0 (ninS ne3 nin0))) 1 0 0 (by show _ ≤ 8; omega) (by show _ ≤ 16; omega) e82 (fp14.keep K0) (g := (mkF m 94 #[rv a1, iv p2, rv a3, iv p4, iv p5, iv p6, rv w54, rv el1, .unset, .unset] [(.ref el1), (.ref b14)])) rfl (by rw [hml]; rfl) [] [(.ref b14)] (lenOf own_pd_9 rfl) rfl rfl (hb hby d5_94)
  obtain ⟨rfl, Nc85, Kc84⟩ := hQ83
  refine own_go st83 ?_
  clear st83 X82 e82
  replace N0 := Fr.app N0 Nc85
  clear Nc85
  refine own_go (fun _ k => XS.aload X83.here hx rfl (hb hby d5_97) rfl rfl k) ?_
  obtain ⟨v86, T86, L86, X86, hQ86, st86⟩ := own_callV (y := (⟨"com/example/nudo/nudo/Vehicle", "departureStep", "()I"⟩ : MethodName)) (z := (⟨"com/example/nudo/nudo/Vehicle", "departureStep", "()I"⟩ : MethodName)) X83 hx hZ hown (ow197 hw) (ow198 hw) (notFace_of_selects (args := #[]) (mvT hZ (ow200 hw))) (ow200 hw) (ow199 hw) (ow111 hw) (ow201 hw) (rm_vdepartureStep l Z a0 hw oDE oDV [] el1 d0 T73.heap O0 (fp19.keep K0 (ninS ne3 nin0))) 2 0 0 (by show _ ≤ 8; omega) (by show _ ≤ 16; omega) Kc84 (fp14.keep K0) (g := (mkF m 99 #[rv a1, iv p2, rv a3, iv p4, iv p5, iv p6, rv w54, rv el1, .unset, .unset] [(.ref el1), (.int (0 : Int32)), (.ref b14)])) rfl (by rw [hml]; rfl) [] [(.int (0 : Int32)), (.ref b14)] (lenOf own_pd_9 rfl) rfl rfl (hb hby d5_99)
  obtain ⟨rfl, Nc88, Kc87⟩ := hQ86
  refine own_go st86 ?_
  clear st86 X83 Kc84
  replace N0 := Fr.app N0 Nc88
  clear Nc88
  obtain ⟨cl89, Ar89, q89, S89, M89, P89, G89⟩ := id f18
  have hin89 : ¬ ((0 : Int32) < 0 ∨ cl89.slots.size ≤ ((0 : Int32)).toNatClampNeg) := inb_of S89 ⟨by decide, by decide⟩
  obtain ⟨T90, h90, X90, e90, W90, st90⟩ := stI X86 hx hZ Kc87 Ar89 (j := (0 : Int32)) hin89 (g := (mkF m 102 #[rv a1, iv p2, rv a3, iv p4, iv p5, iv p6, rv w54, rv el1, .unset, .unset] [(.int d0), (.int (0 : Int32)), (.ref b14)])) rfl rfl (hb hby d5_102)
  refine own_go st90 ?_
  clear st90 X86 Kc87
  have f91 : Arv Z h90 b14 k14 .int (3 : Int32) [(.int d0), (.int (0 : Int32)), (.int (0 : Int32))] (.int (0 : Int32)) := Arv.set Ar89 q89 S89 M89 P89 G89 rfl W90 0 rfl (Nat.le_of_ble_eq_true rfl)
  replace N0 := Fr.snoc X90 N0 big16
  replace fp0 := fp0.wr W90
  replace fp1 := fp1.other W90 (Or.inl ne15)
  replace fp2 := fp2.other W90 (Or.inl ne15)
  replace fp3 := fp3.other W90 (Or.inl ne15)
  replace fp4 := fp4.other W90 (Or.inl ne15)
  replace fp5 := fp5.other W90 (Or.inl ne15)
  replace fp6 := fp6.other W90 (Or.inl ne15)
  replace fp7 := fp7.other W90 (Or.inl ne15)
  replace fp8 := fp8.other W90 (Or.inl ne15)
  replace B14 := B14.wr W90
  clear f18
  replace B23 := B23.wr W90
  replace f28 := f28.other W90 ne25.symm
  replace B33 := B33.wr W90
  replace f39 := f39.other W90 ne35.symm
  replace B44 := B44.wr W90
  replace f51 := f51.other W90 ne46.symm
  replace f74 := f74.wr W90
  replace f75 := f75.other W90 (Or.inl ne64.symm)
  replace f76 := f76.other W90 (Or.inl ne64.symm)
  replace f77 := f77.other W90 (Or.inl ne64.symm)
  replace f78 := f78.other W90 (Or.inl ne64.symm)
  replace O0 := own_oldWr O0 W90 big16
  replace K0 := K0.wr W90 (Or.inr sz17)
  clear W90
  clear Ar89 q89 S89 M89 P89 G89 hin89
  show own_Go p e below s _ _ _ (T90.setTop (mkF m 103 #[rv a1, iv p2, rv a3, iv p4, iv p5, iv p6, rv w54, rv el1, .unset, .unset] []))
  refine own_go (fun _ k => XS.aloadN X90.here hx rfl (hb hby d5_103) rfl rfl k) ?_
  obtain ⟨T92, X92, e92, st92⟩ := getF X90 hx hZ hown (host := "") (Or.inl (ow50 hw)) Via.refl e90 fp3 (g := (mkF m 104 #[rv a1, iv p2, rv a3, iv p4, iv p5, iv p6, rv w54, rv el1, .unset, .unset] [(.ref a1)])) rfl rfl (hb hby d5_104)
  refine own_go st92 ?_
  clear st92 X90 e90
  refine own_go (fun _ k => XS.aload X92.here hx rfl (hb hby d5_107) rfl rfl k) ?_
  obtain ⟨v93, T93, L93, X93, hQ93, st93⟩ := own_callV (y := (⟨"com/example/nudo/nudo/Vehicle", "trip", "()I"⟩ : MethodName)) (z := (⟨"com/example/nudo/nudo/Vehicle", "trip", "()I"⟩ : MethodName)) X92 hx hZ hown (ow192 hw) (ow193 hw) (notFace_of_selects (args := #[]) (mvT hZ (ow195 hw))) (ow195 hw) (ow194 hw) (ow111 hw) (ow196 hw) (rm_vtrip l Z a0 hw oDE oDV [] el1 (0 : Int32) h90 O0 (fp17.keep K0 (ninS ne3 nin0))) 1 0 0 (by show _ ≤ 8; omega) (by show _ ≤ 16; omega) e92 (fp14.keep K0) (g := (mkF m 109 #[rv a1, iv p2, rv a3, iv p4, iv p5, iv p6, rv w54, rv el1, .unset, .unset] [(.ref el1), (.ref b23)])) rfl (by rw [hml]; rfl) [] [(.ref b23)] (lenOf own_pd_9 rfl) rfl rfl (hb hby d5_109)
  obtain ⟨rfl, Nc95, Kc94⟩ := hQ93
  refine own_go st93 ?_
  clear st93 X92 e92
  replace N0 := Fr.app N0 Nc95
  clear Nc95
  refine own_go (fun _ k => XS.aload X93.here hx rfl (hb hby d5_112) rfl rfl k) ?_
  obtain ⟨v96, T96, L96, X96, hQ96, st96⟩ := own_callV (y := (⟨"com/example/nudo/nudo/Vehicle", "exitStep", "()I"⟩ : MethodName)) (z := (⟨"com/example/nudo/nudo/Vehicle", "exitStep", "()I"⟩ : MethodName)) X93 hx hZ hown (ow202 hw) (ow203 hw) (notFace_of_selects (args := #[]) (mvT hZ (ow205 hw))) (ow205 hw) (ow204 hw) (ow111 hw) (ow206 hw) (rm_vexitStep l Z a0 hw oDE oDV [] el1 x0 h90 O0 (fp16.keep K0 (ninS ne3 nin0))) 2 0 0 (by show _ ≤ 8; omega) (by show _ ≤ 16; omega) Kc94 (fp14.keep K0) (g := (mkF m 114 #[rv a1, iv p2, rv a3, iv p4, iv p5, iv p6, rv w54, rv el1, .unset, .unset] [(.ref el1), (.int (0 : Int32)), (.ref b23)])) rfl (by rw [hml]; rfl) [] [(.int (0 : Int32)), (.ref b23)] (lenOf own_pd_9 rfl) rfl rfl (hb hby d5_114)
  obtain ⟨rfl, Nc98, Kc97⟩ := hQ96
  refine own_go st96 ?_
  clear st96 X93 Kc94
  replace N0 := Fr.app N0 Nc98
  clear Nc98
  obtain ⟨cl99, Ar99, q99, S99, M99, P99, G99⟩ := id f28
  have hin99 : ¬ ((0 : Int32) < 0 ∨ cl99.slots.size ≤ ((0 : Int32)).toNatClampNeg) := inb_of S99 ⟨by decide, by decide⟩
  obtain ⟨T100, h100, X100, e100, W100, st100⟩ := stI X96 hx hZ Kc97 Ar99 (j := (0 : Int32)) hin99 (g := (mkF m 117 #[rv a1, iv p2, rv a3, iv p4, iv p5, iv p6, rv w54, rv el1, .unset, .unset] [(.int x0), (.int (0 : Int32)), (.ref b23)])) rfl rfl (hb hby d5_117)
  refine own_go st100 ?_
  clear st100 X96 Kc97
  have f101 : Arv Z h100 b23 k23 .int (3 : Int32) [(.int x0), (.int (0 : Int32)), (.int (0 : Int32))] (.int (0 : Int32)) := Arv.set Ar99 q99 S99 M99 P99 G99 rfl W100 0 rfl (Nat.le_of_ble_eq_true rfl)
  replace N0 := Fr.snoc X100 N0 big26
  replace fp0 := fp0.wr W100
  replace fp1 := fp1.other W100 (Or.inl ne24)
  replace fp2 := fp2.other W100 (Or.inl ne24)
  replace fp3 := fp3.other W100 (Or.inl ne24)
  replace fp4 := fp4.other W100 (Or.inl ne24)
  replace fp5 := fp5.other W100 (Or.inl ne24)
  replace fp6 := fp6.other W100 (Or.inl ne24)
  replace fp7 := fp7.other W100 (Or.inl ne24)
  replace fp8 := fp8.other W100 (Or.inl ne24)
  replace B14 := B14.wr W100
  replace B23 := B23.wr W100
  clear f28
  replace B33 := B33.wr W100
  replace f39 := f39.other W100 ne36.symm
  replace B44 := B44.wr W100
  replace f51 := f51.other W100 ne47.symm
  replace f74 := f74.wr W100
  replace f75 := f75.other W100 (Or.inl ne65.symm)
  replace f76 := f76.other W100 (Or.inl ne65.symm)
  replace f77 := f77.other W100 (Or.inl ne65.symm)
  replace f78 := f78.other W100 (Or.inl ne65.symm)
  replace f91 := f91.other W100 ne25
  replace O0 := own_oldWr O0 W100 big26
  replace K0 := K0.wr W100 (Or.inr sz27)
  clear W100
  clear Ar99 q99 S99 M99 P99 G99 hin99
  show own_Go p e below s _ _ _ (T100.setTop (mkF m 118 #[rv a1, iv p2, rv a3, iv p4, iv p5, iv p6, rv w54, rv el1, .unset, .unset] []))
  refine own_go (fun _ k => XS.aloadN X100.here hx rfl (hb hby d5_118) rfl rfl k) ?_
  obtain ⟨T102, X102, e102, st102⟩ := getF X100 hx hZ hown (host := "") (Or.inl (ow52 hw)) Via.refl e100 fp4 (g := (mkF m 119 #[rv a1, iv p2, rv a3, iv p4, iv p5, iv p6, rv w54, rv el1, .unset, .unset] [(.ref a1)])) rfl rfl (hb hby d5_119)
  refine own_go st102 ?_
  clear st102 X100 e100
  refine own_go (fun _ k => XS.aload X102.here hx rfl (hb hby d5_122) rfl rfl k) ?_
  obtain ⟨v103, T103, L103, X103, hQ103, st103⟩ := own_callV (y := (⟨"com/example/nudo/nudo/Vehicle", "trip", "()I"⟩ : MethodName)) (z := (⟨"com/example/nudo/nudo/Vehicle", "trip", "()I"⟩ : MethodName)) X102 hx hZ hown (ow192 hw) (ow193 hw) (notFace_of_selects (args := #[]) (mvT hZ (ow195 hw))) (ow195 hw) (ow194 hw) (ow111 hw) (ow196 hw) (rm_vtrip l Z a0 hw oDE oDV [] el1 (0 : Int32) h100 O0 (fp17.keep K0 (ninS ne3 nin0))) 1 0 0 (by show _ ≤ 8; omega) (by show _ ≤ 16; omega) e102 (fp14.keep K0) (g := (mkF m 124 #[rv a1, iv p2, rv a3, iv p4, iv p5, iv p6, rv w54, rv el1, .unset, .unset] [(.ref el1), (.ref b33)])) rfl (by rw [hml]; rfl) [] [(.ref b33)] (lenOf own_pd_9 rfl) rfl rfl (hb hby d5_124)
  obtain ⟨rfl, Nc105, Kc104⟩ := hQ103
  refine own_go st103 ?_
  clear st103 X102 e102
  replace N0 := Fr.app N0 Nc105
  clear Nc105
  refine own_go (fun _ k => XS.aload X103.here hx rfl (hb hby d5_127) rfl rfl k) ?_
  obtain ⟨v106, T106, L106, X106, hQ106, st106⟩ := own_callV (y := (⟨"com/example/nudo/nudo/Vehicle", "pathCells", "()I"⟩ : MethodName)) (z := (⟨"com/example/nudo/nudo/Vehicle", "pathCells", "()I"⟩ : MethodName)) X103 hx hZ hown (ow207 hw) (ow208 hw) (notFace_of_selects (args := #[]) (mvT hZ (ow210 hw))) (ow210 hw) (ow209 hw) (ow111 hw) (ow211 hw) (rm_vpc l Z a0 hw oDE oDV [] el1 pa0 kp0 h100 O0 (fp18.keep K0 (ninS ne3 nin0)) (fp20.keep K0 (ninS ne4 nin0))) 2 0 0 (by show _ ≤ 8; omega) (by show _ ≤ 16; omega) Kc104 (fp14.keep K0) (g := (mkF m 129 #[rv a1, iv p2, rv a3, iv p4, iv p5, iv p6, rv w54, rv el1, .unset, .unset] [(.ref el1), (.int (0 : Int32)), (.ref b33)])) rfl (by rw [hml]; rfl) [] [(.int (0 : Int32)), (.ref b33)] (lenOf own_pd_9 rfl) rfl rfl (hb hby d5_129)
  obtain ⟨rfl, Nc108, Kc107⟩ := hQ106
  refine own_go st106 ?_
  clear st106 X103 Kc104
  replace N0 := Fr.app N0 Nc108
  clear Nc108
  obtain ⟨cl109, Ar109, q109, S109, M109, P109, G109⟩ := id f39
  have hin109 : ¬ ((0 : Int32) < 0 ∨ cl109.slots.size ≤ ((0 : Int32)).toNatClampNeg) := inb_of S109 ⟨by decide, by decide⟩
  obtain ⟨T110, h110, X110, e110, W110, st110⟩ := stI X106 hx hZ Kc107 Ar109 (j := (0 : Int32)) hin109 (g := (mkF m 132 #[rv a1, iv p2, rv a3, iv p4, iv p5, iv p6, rv w54, rv el1, .unset, .unset] [(.int (0 : Int32)), (.int (0 : Int32)), (.ref b33)])) rfl rfl (hb hby d5_132)
  refine own_go st110 ?_
  clear st110 X106 Kc107
  have f111 : Arv Z h110 b33 k33 .int (3 : Int32) [(.int (0 : Int32)), (.int (0 : Int32)), (.int (0 : Int32))] (.int (0 : Int32)) := Arv.set Ar109 q109 S109 M109 P109 G109 rfl W110 0 rfl (Nat.le_of_ble_eq_true rfl)
  replace N0 := Fr.snoc X110 N0 big37
  replace fp0 := fp0.wr W110
  replace fp1 := fp1.other W110 (Or.inl ne34)
  replace fp2 := fp2.other W110 (Or.inl ne34)
  replace fp3 := fp3.other W110 (Or.inl ne34)
  replace fp4 := fp4.other W110 (Or.inl ne34)
  replace fp5 := fp5.other W110 (Or.inl ne34)
  replace fp6 := fp6.other W110 (Or.inl ne34)
  replace fp7 := fp7.other W110 (Or.inl ne34)
  replace fp8 := fp8.other W110 (Or.inl ne34)
  replace B14 := B14.wr W110
  replace B23 := B23.wr W110
  replace B33 := B33.wr W110
  clear f39
  replace B44 := B44.wr W110
  replace f51 := f51.other W110 ne48.symm
  replace f74 := f74.wr W110
  replace f75 := f75.other W110 (Or.inl ne66.symm)
  replace f76 := f76.other W110 (Or.inl ne66.symm)
  replace f77 := f77.other W110 (Or.inl ne66.symm)
  replace f78 := f78.other W110 (Or.inl ne66.symm)
  replace f91 := f91.other W110 ne35
  replace f101 := f101.other W110 ne36
  replace O0 := own_oldWr O0 W110 big37
  replace K0 := K0.wr W110 (Or.inr sz38)
  clear W110
  clear Ar109 q109 S109 M109 P109 G109 hin109
  show own_Go p e below s _ _ _ (T110.setTop (mkF m 133 #[rv a1, iv p2, rv a3, iv p4, iv p5, iv p6, rv w54, rv el1, .unset, .unset] []))
  refine own_go (fun _ k => XS.aload X110.here hx rfl (hb hby d5_133) rfl rfl k) ?_
  obtain ⟨v112, T112, L112, X112, hQ112, st112⟩ := own_callV (y := (⟨"com/example/nudo/nudo/Vehicle", "linksEntered", "()I"⟩ : MethodName)) (z := (⟨"com/example/nudo/nudo/Vehicle", "linksEntered", "()I"⟩ : MethodName)) X110 hx hZ hown (ow212 hw) (ow213 hw) (notFace_of_selects (args := #[]) (mvT hZ (ow215 hw))) (ow215 hw) (ow214 hw) (ow111 hw) (ow216 hw) (rm_vle l Z a0 hw oDE oDV [] el1 h110 O0 (fp15.keep K0 (ninS ne3 nin0))) 0 0 0 (by show _ ≤ 8; omega) (by show _ ≤ 16; omega) e110 (fp14.keep K0) (g := (mkF m 135 #[rv a1, iv p2, rv a3, iv p4, iv p5, iv p6, rv w54, rv el1, .unset, .unset] [(.ref el1)])) rfl (by rw [hml]; rfl) [] [] (lenOf own_pd_9 rfl) rfl rfl (hb hby d5_135)
  obtain ⟨rfl, Nc114, Kc113⟩ := hQ112
  refine own_go st112 ?_
  clear st112 X110 e110
  replace N0 := Fr.app N0 Nc114
  clear Nc114
  obtain ⟨T115, h115, k115, X115, e115, E115, A115, B115, st115⟩ := newPE (aty := .int) X112 hx hZ (ow47 hw) Kc113 (g := (mkF m 138 #[rv a1, iv p2, rv a3, iv p4, iv p5, iv p6, rv w54, rv el1, .unset, .unset] [(.int (0 : Int32))])) rfl (hb hby d5_138) rfl (by decide) (cap := 0) (by decide) (by decide) (by show _ ≤ 8; omega) (by show _ ≤ 16; omega) (ad := "[I") (by decide)
  obtain ⟨b115, g115⟩ : ∃ z, z = h110.size := ⟨_, rfl⟩
  rw [← g115] at A115 B115 st115
  refine own_go st115 ?_
  clear st115 X112 Kc113
  have ge115 := Nat.le_of_eq g115.symm
  have ne116 : a1 ≠ b115 := Nat.ne_of_lt (Nat.lt_of_lt_of_le fp0.lt ge115)
  have ne117 : b14 ≠ b115 := Nat.ne_of_lt (Nat.lt_of_lt_of_le B14.lt ge115)
  have ne118 : b23 ≠ b115 := Nat.ne_of_lt (Nat.lt_of_lt_of_le B23.lt ge115)
  have ne119 : b33 ≠ b115 := Nat.ne_of_lt (Nat.lt_of_lt_of_le B33.lt ge115)
  have ne120 : b44 ≠ b115 := Nat.ne_of_lt (Nat.lt_of_lt_of_le B44.lt ge115)
  have ne121 : w54 ≠ b115 := Nat.ne_of_lt (Nat.lt_of_lt_of_le f74.lt ge115)
  have big122 : Z.heap.size ≤ b115 := Nat.le_trans O0.1 ge115
  have sz123 : h0.size ≤ b115 := Nat.le_trans K0.1 ge115
  replace fp0 := fp0.ext E115
  replace fp1 := fp1.ext E115
  replace fp2 := fp2.ext E115
  replace fp3 := fp3.ext E115
  replace fp4 := fp4.ext E115
  replace fp5 := fp5.ext E115
  replace fp6 := fp6.ext E115
  replace fp7 := fp7.ext E115
  replace fp8 := fp8.ext E115
  replace B14 := B14.ext E115
  replace B23 := B23.ext E115
  replace B33 := B33.ext E115
  replace B44 := B44.ext E115
  replace f51 := f51.ext E115
  replace f74 := f74.ext E115
  replace f75 := f75.ext E115
  replace f76 := f76.ext E115
  replace f77 := f77.ext E115
  replace f78 := f78.ext E115
  replace f91 := f91.ext E115
  replace f101 := f101.ext E115
  replace f111 := f111.ext E115
  replace O0 := own_oldExt O0 E115
  replace K0 := K0.ext E115
  clear E115
  have f124 : Arv Z h115 b115 k115 .int (0 : Int32) [] (.int (0 : Int32)) := (Arv.new A115 (by decide)).pad (pad_rep [] (.int (0 : Int32)) 0)
  refine own_go (fun _ k => XS.astore X115.here hx rfl (hb hby d5_140) rfl rfl (l' := #[rv a1, iv p2, rv a3, iv p4, iv p5, iv p6, rv w54, rv el1, rv b115, .unset]) rfl k) ?_
  refine own_go (fun _ k => XS.iconst X115.here hx rfl (hb hby d5_142) k) ?_
  refine own_go (fun _ k => XS.istore X115.here hx rfl (hb hby d5_143) rfl (l' := #[rv a1, iv p2, rv a3, iv p4, iv p5, iv p6, rv w54, rv el1, rv b115, iv (0 : Int32)]) rfl k) ?_
  refine own_go (fun _ k => XS.iload X115.here hx rfl (hb hby d5_145) rfl k) ?_
  show own_Go p e below s _ _ _ (T115.setTop (mkF m 147 #[rv a1, iv p2, rv a3, iv p4, iv p5, iv p6, rv w54, rv el1, rv b115, iv (0 : Int32)] [(.int (0 : Int32))]))
  refine own_go (fun _ k => XS.aload X115.here hx rfl (hb hby d5_147) rfl rfl k) ?_
  show own_Go p e below s _ _ _ (T115.setTop (mkF m 149 #[rv a1, iv p2, rv a3, iv p4, iv p5, iv p6, rv w54, rv el1, rv b115, iv (0 : Int32)] [(.ref b115), (.int (0 : Int32))]))
  obtain ⟨cl125, Ar125, -, S125, M125, -, -⟩ := id f124
  refine own_go (X115.arraylength hx (by rw [e115]; exact Ar125.1) (State.isArrayOf_alike hZ.alike Ar125.2.1) (g := (mkF m 149 #[rv a1, iv p2, rv a3, iv p4, iv p5, iv p6, rv w54, rv el1, rv b115, iv (0 : Int32)] [(.ref b115), (.int (0 : Int32))])) rfl rfl (hb hby d5_149)) ?_
  rw [len_of S125 M125]
  refine own_go (fun _ k => XS.icmpYes X115.here hx rfl (pc0 := 150) (pc' := 171) rfl (hb hby d5_150) rfl (flt (by decide : ¬ ((0 : Int32) < (0 : Int32)))).2.1 (by decide) (by decide) k) ?_
  refine own_go (fun _ k => XS.aloadN X115.here hx rfl (hb hby d5_171) rfl rfl k) ?_
  obtain ⟨T126, X126, e126, st126⟩ := getF X115 hx hZ hown (host := "") (Or.inl (ow56 hw)) Via.refl e115 fp5 (g := (mkF m 172 #[rv a1, iv p2, rv a3, iv p4, iv p5, iv p6, rv w54, rv el1, rv b115, iv (0 : Int32)] [(.ref a1)])) rfl rfl (hb hby d5_172)
  refine own_go st126 ?_
  clear st126 X115 e115
  refine own_go (fun _ k => XS.aload X126.here hx rfl (hb hby d5_175) rfl rfl k) ?_
  obtain ⟨v127, T127, L127, X127, hQ127, st127⟩ := own_callV (y := (⟨"com/example/nudo/nudo/Vehicle", "trip", "()I"⟩ : MethodName)) (z := (⟨"com/example/nudo/nudo/Vehicle", "trip", "()I"⟩ : MethodName)) X126 hx hZ hown (ow192 hw) (ow193 hw) (notFace_of_selects (args := #[]) (mvT hZ (ow195 hw))) (ow195 hw) (ow194 hw) (ow111 hw) (ow196 hw) (rm_vtrip l Z a0 hw oDE oDV [] el1 (0 : Int32) h115 O0 (fp17.keep K0 (ninS ne3 nin0))) 1 0 0 (by show _ ≤ 8; omega) (by show _ ≤ 16; omega) e126 (fp14.keep K0) (g := (mkF m 177 #[rv a1, iv p2, rv a3, iv p4, iv p5, iv p6, rv w54, rv el1, rv b115, iv (0 : Int32)] [(.ref el1), (.ref b44)])) rfl (by rw [hml]; rfl) [] [(.ref b44)] (lenOf own_pd_9 rfl) rfl rfl (hb hby d5_177)
  obtain ⟨rfl, Nc129, Kc128⟩ := hQ127
  refine own_go st127 ?_
  clear st127 X126 e126
  replace N0 := Fr.app N0 Nc129
  clear Nc129
  refine own_go (fun _ k => XS.aload X127.here hx rfl (hb hby d5_180) rfl rfl k) ?_
  show own_Go p e below s _ _ _ (T127.setTop (mkF m 182 #[rv a1, iv p2, rv a3, iv p4, iv p5, iv p6, rv w54, rv el1, rv b115, iv (0 : Int32)] [(.ref b115), (.int (0 : Int32)), (.ref b44)]))
  obtain ⟨cl130, Ar130, q130, S130, M130, P130, G130⟩ := id f51
  have hin130 : ¬ ((0 : Int32) < 0 ∨ cl130.slots.size ≤ ((0 : Int32)).toNatClampNeg) := inb_of S130 ⟨by decide, by decide⟩
  obtain ⟨T131, h131, X131, e131, W131, st131⟩ := stR X127 hx hZ Kc128 Ar130 (j := (0 : Int32)) hin130 rfl (Sto.ofVA Ar130 q130 O44 (Ins.self B115)) (g := (mkF m 182 #[rv a1, iv p2, rv a3, iv p4, iv p5, iv p6, rv w54, rv el1, rv b115, iv (0 : Int32)] [(.ref b115), (.int (0 : Int32)), (.ref b44)])) rfl rfl (hb hby d5_182)
  refine own_go st131 ?_
  clear st131 X127 Kc128
  have f132 : Arv Z h131 b44 k44 (.array .int) (3 : Int32) [(.ref b115), .null, .null] .null := Arv.set Ar130 q130 S130 M130 P130 G130 rfl W131 0 rfl (Nat.le_of_ble_eq_true rfl)
  replace N0 := Fr.snoc X131 N0 big49
  replace fp0 := fp0.wr W131
  replace fp1 := fp1.other W131 (Or.inl ne45)
  replace fp2 := fp2.other W131 (Or.inl ne45)
  replace fp3 := fp3.other W131 (Or.inl ne45)
  replace fp4 := fp4.other W131 (Or.inl ne45)
  replace fp5 := fp5.other W131 (Or.inl ne45)
  replace fp6 := fp6.other W131 (Or.inl ne45)
  replace fp7 := fp7.other W131 (Or.inl ne45)
  replace fp8 := fp8.other W131 (Or.inl ne45)
  replace B14 := B14.wr W131
  replace B23 := B23.wr W131
  replace B33 := B33.wr W131
  replace B44 := B44.wr W131
  clear f51
  replace f74 := f74.wr W131
  replace f75 := f75.other W131 (Or.inl ne67.symm)
  replace f76 := f76.other W131 (Or.inl ne67.symm)
  replace f77 := f77.other W131 (Or.inl ne67.symm)
  replace f78 := f78.other W131 (Or.inl ne67.symm)
  replace f91 := f91.other W131 ne46
  replace f101 := f101.other W131 ne47
  replace f111 := f111.other W131 ne48
  replace B115 := B115.wr W131
  replace f124 := f124.other W131 ne120.symm
  replace O0 := own_oldWr O0 W131 big49
  replace K0 := K0.wr W131 (Or.inr sz50)
  clear W131
  clear Ar130 q130 S130 M130 P130 G130 hin130
  refine own_go (fun _ k => XS.goto X131.here hx rfl (pc0 := 183) (pc' := 66) rfl (hb hby d5_183) (by decide) (by decide) k) ?_
  refine own_go (fun _ k => XS.aload X131.here hx rfl (hb hby d5_66) rfl rfl k) ?_
  obtain ⟨v133, T133, L133, X133, hQ133, st133⟩ := own_callF (xi := (⟨"java/util/Iterator", "hasNext", "()Z"⟩ : MethodName)) (y := (⟨"java/util/ArrayList$Itr", "hasNext", "()Z"⟩ : MethodName)) X131 hx hZ hown (ow82 hw) (ow83 hw) (ow84 hw) (ow85 hw) (ow86 hw) (ow87 hw) (ow88 hw) (ow89 hw) (ow68 hw) (ow90 hw) (by decide) (rm_hn_3_1 l Z a0 hw oDE oDV [] w54 a3 h131 O0 f75 f76 (fp10.keep K0 (ninS ne1 nin0))) 0 0 0 (by show _ ≤ 8; omega) (by show _ ≤ 16; omega) e131 f74 (g := (mkF m 68 #[rv a1, iv p2, rv a3, iv p4, iv p5, iv p6, rv w54, rv el1, rv b115, iv (0 : Int32)] [(.ref w54)])) rfl (by rw [hml]; rfl) [] [] (lenOf own_pd_11 rfl) rfl rfl (hb hby d5_68)
  obtain ⟨rfl, Nc135, Kc134⟩ := hQ133
  refine own_go st133 ?_
  clear st133 X131 e131
  replace N0 := Fr.app N0 Nc135
  clear Nc135
  refine own_go (fun _ k => XS.ifNo X133.here hx rfl (hb hby d5_73) rfl ((if0 _ _).trans (feq (by decide : ¬ ((1 : Int32) = (0 : Int32)))).1) k) ?_
  refine own_go (fun _ k => XS.aload X133.here hx rfl (hb hby d5_76) rfl rfl k) ?_
  obtain ⟨v136, T136, L136, X136, hQ136, st136⟩ := own_callF (xi := (⟨"java/util/Iterator", "next", "()Ljava/lang/Object;"⟩ : MethodName)) (y := (⟨"java/util/ArrayList$Itr", "next", "()Ljava/lang/Object;"⟩ : MethodName)) X133 hx hZ hown (ow176 hw) (ow177 hw) (ow178 hw) (ow179 hw) (ow180 hw) (ow181 hw) (ow182 hw) (ow89 hw) (ow68 hw) (ow183 hw) (by decide) (rm_nx_3_1 l Z a0 hw oDE oDV [] w54 a3 mc (0 : Int32) b k el1 el2 el3 h131 O0 f74 f75 f76 f77 f78 (fp9.keep K0) (fp10.keep K0 (ninS ne1 nin0)) (fp11.keep K0 (ninS ne1 nin0)) (fp12.keep K0 (ninS ne1 nin0)) (fp13.keep K0 (ninS ne2 nin0)) big68) 0 0 0 (by show _ ≤ 8; omega) (by show _ ≤ 16; omega) Kc134 f74 (g := (mkF m 78 #[rv a1, iv p2, rv a3, iv p4, iv p5, iv p6, rv w54, rv el1, rv b115, iv (0 : Int32)] [(.ref w54)])) rfl (by rw [hml]; rfl) [] [] (lenOf own_pd_12 rfl) rfl rfl (hb hby d5_78)
  obtain ⟨rfl, Nc143, Kc142, f137, f138, f139, f140, f141⟩ := hQ136
  refine own_go st136 ?_
  clear st136 X133 Kc134
  replace N0 := Fr.app N0 Nc143
  clear Nc143
  replace fp0 := fp0.keep Kc142
  replace fp1 := fp1.keep Kc142 (ninS ne63 nin0)
  replace fp2 := fp2.keep Kc142 (ninS ne63 nin0)
  replace fp3 := fp3.keep Kc142 (ninS ne63 nin0)
  replace fp4 := fp4.keep Kc142 (ninS ne63 nin0)
  replace fp5 := fp5.keep Kc142 (ninS ne63 nin0)
  replace fp6 := fp6.keep Kc142 (ninS ne63 nin0)
  replace fp7 := fp7.keep Kc142 (ninS ne63 nin0)
  replace fp8 := fp8.keep Kc142 (ninS ne63 nin0)
  replace B14 := B14.keep Kc142
  replace B23 := B23.keep Kc142
  replace B33 := B33.keep Kc142
  replace B44 := B44.keep Kc142
  replace f74 := f74.keep Kc142
  clear f75
  clear f76
  clear f77
  clear f78
  replace f91 := f91.keep Kc142 (ninS ne64 nin0)
  replace f101 := f101.keep Kc142 (ninS ne65 nin0)
  replace f111 := f111.keep Kc142 (ninS ne66 nin0)
  replace B115 := B115.keep Kc142
  replace f124 := f124.keep Kc142 (ninS ne121.symm nin0)
  replace f132 := f132.keep Kc142 (ninS ne67 nin0)
  replace O0 := own_oldKeep O0 Kc142 (allS big68 all0)
  replace K0 := K0.trans Kc142 (allS (Or.inr sz69) all0)
  clear Kc142
  show own_Go p e below s _ _ _ (T136.setTop (mkF m 83 #[rv a1, iv p2, rv a3, iv p4, iv p5, iv p6, rv w54, rv el1, rv b115, iv (0 : Int32)] [(.ref el2)]))
  obtain ⟨T144, X144, e144, st144⟩ := castY X136 hx hZ hown (ow190 hw) (rfl : T136.heap = T136.heap) (Ins.self (fp21.keep K0)) (g := (mkF m 83 #[rv a1, iv p2, rv a3, iv p4, iv p5, iv p6, rv w54, rv el1, rv b115, iv (0 : Int32)] [(.ref el2)])) rfl rfl (hb hby d5_83)
  refine own_go st144 ?_
  clear st144 X136
  refine own_go (fun _ k => XS.astore X144.here hx rfl (hb hby d5_86) rfl rfl (l' := #[rv a1, iv p2, rv a3, iv p4, iv p5, iv p6, rv w54, rv el2, rv b115, iv (0 : Int32)]) rfl k) ?_
  refine own_go (fun _ k => XS.aloadN X144.here hx rfl (hb hby d5_88) rfl rfl k) ?_
  obtain ⟨T145, X145, e145, st145⟩ := getF X144 hx hZ hown (host := "") (Or.inl (ow48 hw)) Via.refl e144 fp2 (g := (mkF m 89 #[rv a1, iv p2, rv a3, iv p4, iv p5, iv p6, rv w54, rv el2, rv b115, iv (0 : Int32)] [(.ref a1)])) rfl rfl (hb hby d5_89)
  refine own_go st145 ?_
  clear st145 X144 e144
  refine own_go (fun _ k => XS.aload X145.here hx rfl (hb hby d5_92) rfl rfl k) ?_
  obtain ⟨v146, T146, L146, X146, hQ146, st146⟩ := own_callV (y := (⟨"com/example/nudo/nudo/Vehicle", "trip", "()I"⟩ : MethodName)) (z := (⟨"com/example/nudo/nudo/Vehicle", "trip", "()I"⟩ : MethodName)) X145 hx hZ hown (ow192 hw) (ow193 hw) (notFace_of_selects (args := #[]) (mvT hZ (ow195 hw))) (ow195 hw) (ow194 hw) (ow111 hw) (ow196 hw) (rm_vtrip l Z a0 hw oDE oDV [] el2 (1 : Int32) T136.heap O0 (fp24.keep K0 (ninS ne5 nin0))) 1 0 0 (by show _ ≤ 8; omega) (by show _ ≤ 16; omega) e145 (fp21.keep K0) (g := (mkF m 94 #[rv a1, iv p2, rv a3, iv p4, iv p5, iv p6, rv w54, rv el2, rv b115, iv (0 : Int32)] [(.ref el2), (.ref b14)])) rfl (by rw [hml]; rfl) [] [(.ref b14)] (lenOf own_pd_9 rfl) rfl rfl (hb hby d5_94)
  obtain ⟨rfl, Nc148, Kc147⟩ := hQ146
  refine own_go st146 ?_
  clear st146 X145 e145
  replace N0 := Fr.app N0 Nc148
  clear Nc148
  refine own_go (fun _ k => XS.aload X146.here hx rfl (hb hby d5_97) rfl rfl k) ?_
  show own_Go p e below s _ _ _ (T146.setTop (mkF m 99 #[rv a1, iv p2, rv a3, iv p4, iv p5, iv p6, rv w54, rv el2, rv b115, iv (0 : Int32)] [(.ref el2), (.int (1 : Int32)), (.ref b14)]))
  obtain ⟨v149, T149, L149, X149, hQ149, st149⟩ := own_callV (y := (⟨"com/example/nudo/nudo/Vehicle", "departureStep", "()I"⟩ : MethodName)) (z := (⟨"com/example/nudo/nudo/Vehicle", "departureStep", "()I"⟩ : MethodName)) X146 hx hZ hown (ow197 hw) (ow198 hw) (notFace_of_selects (args := #[]) (mvT hZ (ow200 hw))) (ow200 hw) (ow199 hw) (ow111 hw) (ow201 hw) (rm_vdepartureStep l Z a0 hw oDE oDV [] el2 d1 T136.heap O0 (fp26.keep K0 (ninS ne5 nin0))) 2 0 0 (by show _ ≤ 8; omega) (by show _ ≤ 16; omega) Kc147 (fp21.keep K0) (g := (mkF m 99 #[rv a1, iv p2, rv a3, iv p4, iv p5, iv p6, rv w54, rv el2, rv b115, iv (0 : Int32)] [(.ref el2), (.int (1 : Int32)), (.ref b14)])) rfl (by rw [hml]; rfl) [] [(.int (1 : Int32)), (.ref b14)] (lenOf own_pd_9 rfl) rfl rfl (hb hby d5_99)
  obtain ⟨rfl, Nc151, Kc150⟩ := hQ149
  refine own_go st149 ?_
  clear st149 X146 Kc147
  replace N0 := Fr.app N0 Nc151
  clear Nc151
  obtain ⟨cl152, Ar152, q152, S152, M152, P152, G152⟩ := id f91
  have hin152 : ¬ ((1 : Int32) < 0 ∨ cl152.slots.size ≤ ((1 : Int32)).toNatClampNeg) := inb_of S152 ⟨by decide, by decide⟩
  obtain ⟨T153, h153, X153, e153, W153, st153⟩ := stI X149 hx hZ Kc150 Ar152 (j := (1 : Int32)) hin152 (g := (mkF m 102 #[rv a1, iv p2, rv a3, iv p4, iv p5, iv p6, rv w54, rv el2, rv b115, iv (0 : Int32)] [(.int d1), (.int (1 : Int32)), (.ref b14)])) rfl rfl (hb hby d5_102)
  refine own_go st153 ?_
  clear st153 X149 Kc150
  have f154 : Arv Z h153 b14 k14 .int (3 : Int32) [(.int d0), (.int d1), (.int (0 : Int32))] (.int (0 : Int32)) := Arv.set Ar152 q152 S152 M152 P152 G152 rfl W153 1 rfl (Nat.le_of_ble_eq_true rfl)
  replace N0 := Fr.snoc X153 N0 big16
  replace fp0 := fp0.wr W153
  replace fp1 := fp1.other W153 (Or.inl ne15)
  replace fp2 := fp2.other W153 (Or.inl ne15)
  replace fp3 := fp3.other W153 (Or.inl ne15)
  replace fp4 := fp4.other W153 (Or.inl ne15)
  replace fp5 := fp5.other W153 (Or.inl ne15)
  replace fp6 := fp6.other W153 (Or.inl ne15)
  replace fp7 := fp7.other W153 (Or.inl ne15)
  replace fp8 := fp8.other W153 (Or.inl ne15)
  replace B14 := B14.wr W153
  replace B23 := B23.wr W153
  replace B33 := B33.wr W153
  replace B44 := B44.wr W153
  replace f137 := f137.wr W153
  clear f91
  replace f101 := f101.other W153 ne25.symm
  replace f111 := f111.other W153 ne35.symm
  replace B115 := B115.wr W153
  replace f124 := f124.other W153 ne117.symm
  replace f132 := f132.other W153 ne46.symm
  replace f138 := f138.other W153 (Or.inl ne64.symm)
  replace f139 := f139.other W153 (Or.inl ne64.symm)
  replace f140 := f140.other W153 (Or.inl ne64.symm)
  replace f141 := f141.other W153 (Or.inl ne64.symm)
  replace O0 := own_oldWr O0 W153 big16
  replace K0 := K0.wr W153 (Or.inr sz17)
  clear W153
  clear Ar152 q152 S152 M152 P152 G152 hin152
  refine own_go (fun _ k => XS.aloadN X153.here hx rfl (hb hby d5_103) rfl rfl k) ?_
  obtain ⟨T155, X155, e155, st155⟩ := getF X153 hx hZ hown (host := "") (Or.inl (ow50 hw)) Via.refl e153 fp3 (g := (mkF m 104 #[rv a1, iv p2, rv a3, iv p4, iv p5, iv p6, rv w54, rv el2, rv b115, iv (0 : Int32)] [(.ref a1)])) rfl rfl (hb hby d5_104)
  refine own_go st155 ?_
  clear st155 X153 e153
  refine own_go (fun _ k => XS.aload X155.here hx rfl (hb hby d5_107) rfl rfl k) ?_
  obtain ⟨v156, T156, L156, X156, hQ156, st156⟩ := own_callV (y := (⟨"com/example/nudo/nudo/Vehicle", "trip", "()I"⟩ : MethodName)) (z := (⟨"com/example/nudo/nudo/Vehicle", "trip", "()I"⟩ : MethodName)) X155 hx hZ hown (ow192 hw) (ow193 hw) (notFace_of_selects (args := #[]) (mvT hZ (ow195 hw))) (ow195 hw) (ow194 hw) (ow111 hw) (ow196 hw) (rm_vtrip l Z a0 hw oDE oDV [] el2 (1 : Int32) h153 O0 (fp24.keep K0 (ninS ne5 nin0))) 1 0 0 (by show _ ≤ 8; omega) (by show _ ≤ 16; omega) e155 (fp21.keep K0) (g := (mkF m 109 #[rv a1, iv p2, rv a3, iv p4, iv p5, iv p6, rv w54, rv el2, rv b115, iv (0 : Int32)] [(.ref el2), (.ref b23)])) rfl (by rw [hml]; rfl) [] [(.ref b23)] (lenOf own_pd_9 rfl) rfl rfl (hb hby d5_109)
  obtain ⟨rfl, Nc158, Kc157⟩ := hQ156
  refine own_go st156 ?_
  clear st156 X155 e155
  replace N0 := Fr.app N0 Nc158
  clear Nc158
  refine own_go (fun _ k => XS.aload X156.here hx rfl (hb hby d5_112) rfl rfl k) ?_
  show own_Go p e below s _ _ _ (T156.setTop (mkF m 114 #[rv a1, iv p2, rv a3, iv p4, iv p5, iv p6, rv w54, rv el2, rv b115, iv (0 : Int32)] [(.ref el2), (.int (1 : Int32)), (.ref b23)]))
  obtain ⟨v159, T159, L159, X159, hQ159, st159⟩ := own_callV (y := (⟨"com/example/nudo/nudo/Vehicle", "exitStep", "()I"⟩ : MethodName)) (z := (⟨"com/example/nudo/nudo/Vehicle", "exitStep", "()I"⟩ : MethodName)) X156 hx hZ hown (ow202 hw) (ow203 hw) (notFace_of_selects (args := #[]) (mvT hZ (ow205 hw))) (ow205 hw) (ow204 hw) (ow111 hw) (ow206 hw) (rm_vexitStep l Z a0 hw oDE oDV [] el2 x1 h153 O0 (fp23.keep K0 (ninS ne5 nin0))) 2 0 0 (by show _ ≤ 8; omega) (by show _ ≤ 16; omega) Kc157 (fp21.keep K0) (g := (mkF m 114 #[rv a1, iv p2, rv a3, iv p4, iv p5, iv p6, rv w54, rv el2, rv b115, iv (0 : Int32)] [(.ref el2), (.int (1 : Int32)), (.ref b23)])) rfl (by rw [hml]; rfl) [] [(.int (1 : Int32)), (.ref b23)] (lenOf own_pd_9 rfl) rfl rfl (hb hby d5_114)
  obtain ⟨rfl, Nc161, Kc160⟩ := hQ159
  refine own_go st159 ?_
  clear st159 X156 Kc157
  replace N0 := Fr.app N0 Nc161
  clear Nc161
  obtain ⟨cl162, Ar162, q162, S162, M162, P162, G162⟩ := id f101
  have hin162 : ¬ ((1 : Int32) < 0 ∨ cl162.slots.size ≤ ((1 : Int32)).toNatClampNeg) := inb_of S162 ⟨by decide, by decide⟩
  obtain ⟨T163, h163, X163, e163, W163, st163⟩ := stI X159 hx hZ Kc160 Ar162 (j := (1 : Int32)) hin162 (g := (mkF m 117 #[rv a1, iv p2, rv a3, iv p4, iv p5, iv p6, rv w54, rv el2, rv b115, iv (0 : Int32)] [(.int x1), (.int (1 : Int32)), (.ref b23)])) rfl rfl (hb hby d5_117)
  refine own_go st163 ?_
  clear st163 X159 Kc160
  have f164 : Arv Z h163 b23 k23 .int (3 : Int32) [(.int x0), (.int x1), (.int (0 : Int32))] (.int (0 : Int32)) := Arv.set Ar162 q162 S162 M162 P162 G162 rfl W163 1 rfl (Nat.le_of_ble_eq_true rfl)
  replace N0 := Fr.snoc X163 N0 big26
  replace fp0 := fp0.wr W163
  replace fp1 := fp1.other W163 (Or.inl ne24)
  replace fp2 := fp2.other W163 (Or.inl ne24)
  replace fp3 := fp3.other W163 (Or.inl ne24)
  replace fp4 := fp4.other W163 (Or.inl ne24)
  replace fp5 := fp5.other W163 (Or.inl ne24)
  replace fp6 := fp6.other W163 (Or.inl ne24)
  replace fp7 := fp7.other W163 (Or.inl ne24)
  replace fp8 := fp8.other W163 (Or.inl ne24)
  replace B14 := B14.wr W163
  replace B23 := B23.wr W163
  replace B33 := B33.wr W163
  replace B44 := B44.wr W163
  replace f137 := f137.wr W163
  clear f101
  replace f111 := f111.other W163 ne36.symm
  replace B115 := B115.wr W163
  replace f124 := f124.other W163 ne118.symm
  replace f132 := f132.other W163 ne47.symm
  replace f138 := f138.other W163 (Or.inl ne65.symm)
  replace f139 := f139.other W163 (Or.inl ne65.symm)
  replace f140 := f140.other W163 (Or.inl ne65.symm)
  replace f141 := f141.other W163 (Or.inl ne65.symm)
  replace f154 := f154.other W163 ne25
  replace O0 := own_oldWr O0 W163 big26
  replace K0 := K0.wr W163 (Or.inr sz27)
  clear W163
  clear Ar162 q162 S162 M162 P162 G162 hin162
  refine own_go (fun _ k => XS.aloadN X163.here hx rfl (hb hby d5_118) rfl rfl k) ?_
  obtain ⟨T165, X165, e165, st165⟩ := getF X163 hx hZ hown (host := "") (Or.inl (ow52 hw)) Via.refl e163 fp4 (g := (mkF m 119 #[rv a1, iv p2, rv a3, iv p4, iv p5, iv p6, rv w54, rv el2, rv b115, iv (0 : Int32)] [(.ref a1)])) rfl rfl (hb hby d5_119)
  refine own_go st165 ?_
  clear st165 X163 e163
  refine own_go (fun _ k => XS.aload X165.here hx rfl (hb hby d5_122) rfl rfl k) ?_
  obtain ⟨v166, T166, L166, X166, hQ166, st166⟩ := own_callV (y := (⟨"com/example/nudo/nudo/Vehicle", "trip", "()I"⟩ : MethodName)) (z := (⟨"com/example/nudo/nudo/Vehicle", "trip", "()I"⟩ : MethodName)) X165 hx hZ hown (ow192 hw) (ow193 hw) (notFace_of_selects (args := #[]) (mvT hZ (ow195 hw))) (ow195 hw) (ow194 hw) (ow111 hw) (ow196 hw) (rm_vtrip l Z a0 hw oDE oDV [] el2 (1 : Int32) h163 O0 (fp24.keep K0 (ninS ne5 nin0))) 1 0 0 (by show _ ≤ 8; omega) (by show _ ≤ 16; omega) e165 (fp21.keep K0) (g := (mkF m 124 #[rv a1, iv p2, rv a3, iv p4, iv p5, iv p6, rv w54, rv el2, rv b115, iv (0 : Int32)] [(.ref el2), (.ref b33)])) rfl (by rw [hml]; rfl) [] [(.ref b33)] (lenOf own_pd_9 rfl) rfl rfl (hb hby d5_124)
  obtain ⟨rfl, Nc168, Kc167⟩ := hQ166
  refine own_go st166 ?_
  clear st166 X165 e165
  replace N0 := Fr.app N0 Nc168
  clear Nc168
  refine own_go (fun _ k => XS.aload X166.here hx rfl (hb hby d5_127) rfl rfl k) ?_
  show own_Go p e below s _ _ _ (T166.setTop (mkF m 129 #[rv a1, iv p2, rv a3, iv p4, iv p5, iv p6, rv w54, rv el2, rv b115, iv (0 : Int32)] [(.ref el2), (.int (1 : Int32)), (.ref b33)]))
  obtain ⟨v169, T169, L169, X169, hQ169, st169⟩ := own_callV (y := (⟨"com/example/nudo/nudo/Vehicle", "pathCells", "()I"⟩ : MethodName)) (z := (⟨"com/example/nudo/nudo/Vehicle", "pathCells", "()I"⟩ : MethodName)) X166 hx hZ hown (ow207 hw) (ow208 hw) (notFace_of_selects (args := #[]) (mvT hZ (ow210 hw))) (ow210 hw) (ow209 hw) (ow111 hw) (ow211 hw) (rm_vpc l Z a0 hw oDE oDV [] el2 pa1 kp1 h163 O0 (fp25.keep K0 (ninS ne5 nin0)) (fp27.keep K0 (ninS ne6 nin0))) 2 0 0 (by show _ ≤ 8; omega) (by show _ ≤ 16; omega) Kc167 (fp21.keep K0) (g := (mkF m 129 #[rv a1, iv p2, rv a3, iv p4, iv p5, iv p6, rv w54, rv el2, rv b115, iv (0 : Int32)] [(.ref el2), (.int (1 : Int32)), (.ref b33)])) rfl (by rw [hml]; rfl) [] [(.int (1 : Int32)), (.ref b33)] (lenOf own_pd_9 rfl) rfl rfl (hb hby d5_129)
  obtain ⟨rfl, Nc171, Kc170⟩ := hQ169
  refine own_go st169 ?_
  clear st169 X166 Kc167
  replace N0 := Fr.app N0 Nc171
  clear Nc171
  obtain ⟨cl172, Ar172, q172, S172, M172, P172, G172⟩ := id f111
  have hin172 : ¬ ((1 : Int32) < 0 ∨ cl172.slots.size ≤ ((1 : Int32)).toNatClampNeg) := inb_of S172 ⟨by decide, by decide⟩
  obtain ⟨T173, h173, X173, e173, W173, st173⟩ := stI X169 hx hZ Kc170 Ar172 (j := (1 : Int32)) hin172 (g := (mkF m 132 #[rv a1, iv p2, rv a3, iv p4, iv p5, iv p6, rv w54, rv el2, rv b115, iv (0 : Int32)] [(.int (0 : Int32)), (.int (1 : Int32)), (.ref b33)])) rfl rfl (hb hby d5_132)
  refine own_go st173 ?_
  clear st173 X169 Kc170
  have f174 : Arv Z h173 b33 k33 .int (3 : Int32) [(.int (0 : Int32)), (.int (0 : Int32)), (.int (0 : Int32))] (.int (0 : Int32)) := Arv.set Ar172 q172 S172 M172 P172 G172 rfl W173 1 rfl (Nat.le_of_ble_eq_true rfl)
  replace N0 := Fr.snoc X173 N0 big37
  replace fp0 := fp0.wr W173
  replace fp1 := fp1.other W173 (Or.inl ne34)
  replace fp2 := fp2.other W173 (Or.inl ne34)
  replace fp3 := fp3.other W173 (Or.inl ne34)
  replace fp4 := fp4.other W173 (Or.inl ne34)
  replace fp5 := fp5.other W173 (Or.inl ne34)
  replace fp6 := fp6.other W173 (Or.inl ne34)
  replace fp7 := fp7.other W173 (Or.inl ne34)
  replace fp8 := fp8.other W173 (Or.inl ne34)
  replace B14 := B14.wr W173
  replace B23 := B23.wr W173
  replace B33 := B33.wr W173
  replace B44 := B44.wr W173
  replace f137 := f137.wr W173
  clear f111
  replace B115 := B115.wr W173
  replace f124 := f124.other W173 ne119.symm
  replace f132 := f132.other W173 ne48.symm
  replace f138 := f138.other W173 (Or.inl ne66.symm)
  replace f139 := f139.other W173 (Or.inl ne66.symm)
  replace f140 := f140.other W173 (Or.inl ne66.symm)
  replace f141 := f141.other W173 (Or.inl ne66.symm)
  replace f154 := f154.other W173 ne35
  replace f164 := f164.other W173 ne36
  replace O0 := own_oldWr O0 W173 big37
  replace K0 := K0.wr W173 (Or.inr sz38)
  clear W173
  clear Ar172 q172 S172 M172 P172 G172 hin172
  refine own_go (fun _ k => XS.aload X173.here hx rfl (hb hby d5_133) rfl rfl k) ?_
  obtain ⟨v175, T175, L175, X175, hQ175, st175⟩ := own_callV (y := (⟨"com/example/nudo/nudo/Vehicle", "linksEntered", "()I"⟩ : MethodName)) (z := (⟨"com/example/nudo/nudo/Vehicle", "linksEntered", "()I"⟩ : MethodName)) X173 hx hZ hown (ow212 hw) (ow213 hw) (notFace_of_selects (args := #[]) (mvT hZ (ow215 hw))) (ow215 hw) (ow214 hw) (ow111 hw) (ow216 hw) (rm_vle l Z a0 hw oDE oDV [] el2 h173 O0 (fp22.keep K0 (ninS ne5 nin0))) 0 0 0 (by show _ ≤ 8; omega) (by show _ ≤ 16; omega) e173 (fp21.keep K0) (g := (mkF m 135 #[rv a1, iv p2, rv a3, iv p4, iv p5, iv p6, rv w54, rv el2, rv b115, iv (0 : Int32)] [(.ref el2)])) rfl (by rw [hml]; rfl) [] [] (lenOf own_pd_9 rfl) rfl rfl (hb hby d5_135)
  obtain ⟨rfl, Nc177, Kc176⟩ := hQ175
  refine own_go st175 ?_
  clear st175 X173 e173
  replace N0 := Fr.app N0 Nc177
  clear Nc177
  obtain ⟨T178, h178, k178, X178, e178, E178, A178, B178, st178⟩ := newPE (aty := .int) X175 hx hZ (ow47 hw) Kc176 (g := (mkF m 138 #[rv a1, iv p2, rv a3, iv p4, iv p5, iv p6, rv w54, rv el2, rv b115, iv (0 : Int32)] [(.int (0 : Int32))])) rfl (hb hby d5_138) rfl (by decide) (cap := 0) (by decide) (by decide) (by show _ ≤ 8; omega) (by show _ ≤ 16; omega) (ad := "[I") (by decide)
  obtain ⟨b178, g178⟩ : ∃ z, z = h173.size := ⟨_, rfl⟩
  rw [← g178] at A178 B178 st178
  refine own_go st178 ?_
  clear st178 X175 Kc176
  have ge178 := Nat.le_of_eq g178.symm
  have ne179 : a1 ≠ b178 := Nat.ne_of_lt (Nat.lt_of_lt_of_le fp0.lt ge178)
  have ne180 : b14 ≠ b178 := Nat.ne_of_lt (Nat.lt_of_lt_of_le B14.lt ge178)
  have ne181 : b23 ≠ b178 := Nat.ne_of_lt (Nat.lt_of_lt_of_le B23.lt ge178)
  have ne182 : b33 ≠ b178 := Nat.ne_of_lt (Nat.lt_of_lt_of_le B33.lt ge178)
  have ne183 : b44 ≠ b178 := Nat.ne_of_lt (Nat.lt_of_lt_of_le B44.lt ge178)
  have ne184 : w54 ≠ b178 := Nat.ne_of_lt (Nat.lt_of_lt_of_le f137.lt ge178)
  have ne185 : b115 ≠ b178 := Nat.ne_of_lt (Nat.lt_of_lt_of_le B115.lt ge178)
  have big186 : Z.heap.size ≤ b178 := Nat.le_trans O0.1 ge178
  have sz187 : h0.size ≤ b178 := Nat.le_trans K0.1 ge178
  replace fp0 := fp0.ext E178
  replace fp1 := fp1.ext E178
  replace fp2 := fp2.ext E178
  replace fp3 := fp3.ext E178
  replace fp4 := fp4.ext E178
  replace fp5 := fp5.ext E178
  replace fp6 := fp6.ext E178
  replace fp7 := fp7.ext E178
  replace fp8 := fp8.ext E178
  replace B14 := B14.ext E178
  replace B23 := B23.ext E178
  replace B33 := B33.ext E178
  replace B44 := B44.ext E178
  replace f137 := f137.ext E178
  replace B115 := B115.ext E178
  replace f124 := f124.ext E178
  replace f132 := f132.ext E178
  replace f138 := f138.ext E178
  replace f139 := f139.ext E178
  replace f140 := f140.ext E178
  replace f141 := f141.ext E178
  replace f154 := f154.ext E178
  replace f164 := f164.ext E178
  replace f174 := f174.ext E178
  replace O0 := own_oldExt O0 E178
  replace K0 := K0.ext E178
  clear E178
  have f188 : Arv Z h178 b178 k178 .int (0 : Int32) [] (.int (0 : Int32)) := (Arv.new A178 (by decide)).pad (pad_rep [] (.int (0 : Int32)) 0)
  refine own_go (fun _ k => XS.astore X178.here hx rfl (hb hby d5_140) rfl rfl (l' := #[rv a1, iv p2, rv a3, iv p4, iv p5, iv p6, rv w54, rv el2, rv b178, iv (0 : Int32)]) rfl k) ?_
  refine own_go (fun _ k => XS.iconst X178.here hx rfl (hb hby d5_142) k) ?_
  show own_Go p e below s _ _ _ (T178.setTop (mkF m 143 #[rv a1, iv p2, rv a3, iv p4, iv p5, iv p6, rv w54, rv el2, rv b178, iv (0 : Int32)] [(.int (0 : Int32))]))
  refine own_go (fun _ k => XS.istore X178.here hx rfl (hb hby d5_143) rfl (l' := #[rv a1, iv p2, rv a3, iv p4, iv p5, iv p6, rv w54, rv el2, rv b178, iv (0 : Int32)]) rfl k) ?_
  refine own_go (fun _ k => XS.iload X178.here hx rfl (hb hby d5_145) rfl k) ?_
  refine own_go (fun _ k => XS.aload X178.here hx rfl (hb hby d5_147) rfl rfl k) ?_
  show own_Go p e below s _ _ _ (T178.setTop (mkF m 149 #[rv a1, iv p2, rv a3, iv p4, iv p5, iv p6, rv w54, rv el2, rv b178, iv (0 : Int32)] [(.ref b178), (.int (0 : Int32))]))
  obtain ⟨cl189, Ar189, -, S189, M189, -, -⟩ := id f188
  refine own_go (X178.arraylength hx (by rw [e178]; exact Ar189.1) (State.isArrayOf_alike hZ.alike Ar189.2.1) (g := (mkF m 149 #[rv a1, iv p2, rv a3, iv p4, iv p5, iv p6, rv w54, rv el2, rv b178, iv (0 : Int32)] [(.ref b178), (.int (0 : Int32))])) rfl rfl (hb hby d5_149)) ?_
  rw [len_of S189 M189]
  refine own_go (fun _ k => XS.icmpYes X178.here hx rfl (pc0 := 150) (pc' := 171) rfl (hb hby d5_150) rfl (flt (by decide : ¬ ((0 : Int32) < (0 : Int32)))).2.1 (by decide) (by decide) k) ?_
  refine own_go (fun _ k => XS.aloadN X178.here hx rfl (hb hby d5_171) rfl rfl k) ?_
  obtain ⟨T190, X190, e190, st190⟩ := getF X178 hx hZ hown (host := "") (Or.inl (ow56 hw)) Via.refl e178 fp5 (g := (mkF m 172 #[rv a1, iv p2, rv a3, iv p4, iv p5, iv p6, rv w54, rv el2, rv b178, iv (0 : Int32)] [(.ref a1)])) rfl rfl (hb hby d5_172)
  refine own_go st190 ?_
  clear st190 X178 e178
  refine own_go (fun _ k => XS.aload X190.here hx rfl (hb hby d5_175) rfl rfl k) ?_
  obtain ⟨v191, T191, L191, X191, hQ191, st191⟩ := own_callV (y := (⟨"com/example/nudo/nudo/Vehicle", "trip", "()I"⟩ : MethodName)) (z := (⟨"com/example/nudo/nudo/Vehicle", "trip", "()I"⟩ : MethodName)) X190 hx hZ hown (ow192 hw) (ow193 hw) (notFace_of_selects (args := #[]) (mvT hZ (ow195 hw))) (ow195 hw) (ow194 hw) (ow111 hw) (ow196 hw) (rm_vtrip l Z a0 hw oDE oDV [] el2 (1 : Int32) h178 O0 (fp24.keep K0 (ninS ne5 nin0))) 1 0 0 (by show _ ≤ 8; omega) (by show _ ≤ 16; omega) e190 (fp21.keep K0) (g := (mkF m 177 #[rv a1, iv p2, rv a3, iv p4, iv p5, iv p6, rv w54, rv el2, rv b178, iv (0 : Int32)] [(.ref el2), (.ref b44)])) rfl (by rw [hml]; rfl) [] [(.ref b44)] (lenOf own_pd_9 rfl) rfl rfl (hb hby d5_177)
  obtain ⟨rfl, Nc193, Kc192⟩ := hQ191
  refine own_go st191 ?_
  clear st191 X190 e190
  replace N0 := Fr.app N0 Nc193
  clear Nc193
  refine own_go (fun _ k => XS.aload X191.here hx rfl (hb hby d5_180) rfl rfl k) ?_
  show own_Go p e below s _ _ _ (T191.setTop (mkF m 182 #[rv a1, iv p2, rv a3, iv p4, iv p5, iv p6, rv w54, rv el2, rv b178, iv (0 : Int32)] [(.ref b178), (.int (1 : Int32)), (.ref b44)]))
  obtain ⟨cl194, Ar194, q194, S194, M194, P194, G194⟩ := id f132
  have hin194 : ¬ ((1 : Int32) < 0 ∨ cl194.slots.size ≤ ((1 : Int32)).toNatClampNeg) := inb_of S194 ⟨by decide, by decide⟩
  obtain ⟨T195, h195, X195, e195, W195, st195⟩ := stR X191 hx hZ Kc192 Ar194 (j := (1 : Int32)) hin194 rfl (Sto.ofVA Ar194 q194 O44 (Ins.self B178)) (g := (mkF m 182 #[rv a1, iv p2, rv a3, iv p4, iv p5, iv p6, rv w54, rv el2, rv b178, iv (0 : Int32)] [(.ref b178), (.int (1 : Int32)), (.ref b44)])) rfl rfl (hb hby d5_182)
  refine own_go st195 ?_
  clear st195 X191 Kc192
  have f196 : Arv Z h195 b44 k44 (.array .int) (3 : Int32) [(.ref b115), (.ref b178), .null] .null := Arv.set Ar194 q194 S194 M194 P194 G194 rfl W195 1 rfl (Nat.le_of_ble_eq_true rfl)
  replace N0 := Fr.snoc X195 N0 big49
  replace fp0 := fp0.wr W195
  replace fp1 := fp1.other W195 (Or.inl ne45)
  replace fp2 := fp2.other W195 (Or.inl ne45)
  replace fp3 := fp3.other W195 (Or.inl ne45)
  replace fp4 := fp4.other W195 (Or.inl ne45)
  replace fp5 := fp5.other W195 (Or.inl ne45)
  replace fp6 := fp6.other W195 (Or.inl ne45)
  replace fp7 := fp7.other W195 (Or.inl ne45)
  replace fp8 := fp8.other W195 (Or.inl ne45)
  replace B14 := B14.wr W195
  replace B23 := B23.wr W195
  replace B33 := B33.wr W195
  replace B44 := B44.wr W195
  replace f137 := f137.wr W195
  replace B115 := B115.wr W195
  replace f124 := f124.other W195 ne120.symm
  clear f132
  replace f138 := f138.other W195 (Or.inl ne67.symm)
  replace f139 := f139.other W195 (Or.inl ne67.symm)
  replace f140 := f140.other W195 (Or.inl ne67.symm)
  replace f141 := f141.other W195 (Or.inl ne67.symm)
  replace f154 := f154.other W195 ne46
  replace f164 := f164.other W195 ne47
  replace f174 := f174.other W195 ne48
  replace B178 := B178.wr W195
  replace f188 := f188.other W195 ne183.symm
  replace O0 := own_oldWr O0 W195 big49
  replace K0 := K0.wr W195 (Or.inr sz50)
  clear W195
  clear Ar194 q194 S194 M194 P194 G194 hin194
  refine own_go (fun _ k => XS.goto X195.here hx rfl (pc0 := 183) (pc' := 66) rfl (hb hby d5_183) (by decide) (by decide) k) ?_
  refine own_go (fun _ k => XS.aload X195.here hx rfl (hb hby d5_66) rfl rfl k) ?_
  obtain ⟨v197, T197, L197, X197, hQ197, st197⟩ := own_callF (xi := (⟨"java/util/Iterator", "hasNext", "()Z"⟩ : MethodName)) (y := (⟨"java/util/ArrayList$Itr", "hasNext", "()Z"⟩ : MethodName)) X195 hx hZ hown (ow82 hw) (ow83 hw) (ow84 hw) (ow85 hw) (ow86 hw) (ow87 hw) (ow88 hw) (ow89 hw) (ow68 hw) (ow90 hw) (by decide) (rm_hn_3_2 l Z a0 hw oDE oDV [] w54 a3 h195 O0 f138 f139 (fp10.keep K0 (ninS ne1 nin0))) 0 0 0 (by show _ ≤ 8; omega) (by show _ ≤ 16; omega) e195 f137 (g := (mkF m 68 #[rv a1, iv p2, rv a3, iv p4, iv p5, iv p6, rv w54, rv el2, rv b178, iv (0 : Int32)] [(.ref w54)])) rfl (by rw [hml]; rfl) [] [] (lenOf own_pd_11 rfl) rfl rfl (hb hby d5_68)
  obtain ⟨rfl, Nc199, Kc198⟩ := hQ197
  refine own_go st197 ?_
  clear st197 X195 e195
  replace N0 := Fr.app N0 Nc199
  clear Nc199
  refine own_go (fun _ k => XS.ifNo X197.here hx rfl (hb hby d5_73) rfl ((if0 _ _).trans (feq (by decide : ¬ ((1 : Int32) = (0 : Int32)))).1) k) ?_
  refine own_go (fun _ k => XS.aload X197.here hx rfl (hb hby d5_76) rfl rfl k) ?_
  obtain ⟨v200, T200, L200, X200, hQ200, st200⟩ := own_callF (xi := (⟨"java/util/Iterator", "next", "()Ljava/lang/Object;"⟩ : MethodName)) (y := (⟨"java/util/ArrayList$Itr", "next", "()Ljava/lang/Object;"⟩ : MethodName)) X197 hx hZ hown (ow176 hw) (ow177 hw) (ow178 hw) (ow179 hw) (ow180 hw) (ow181 hw) (ow182 hw) (ow89 hw) (ow68 hw) (ow183 hw) (by decide) (rm_nx_3_2 l Z a0 hw oDE oDV [] w54 a3 mc (1 : Int32) b k el1 el2 el3 h195 O0 f137 f138 f139 f140 f141 (fp9.keep K0) (fp10.keep K0 (ninS ne1 nin0)) (fp11.keep K0 (ninS ne1 nin0)) (fp12.keep K0 (ninS ne1 nin0)) (fp13.keep K0 (ninS ne2 nin0)) big68) 0 0 0 (by show _ ≤ 8; omega) (by show _ ≤ 16; omega) Kc198 f137 (g := (mkF m 78 #[rv a1, iv p2, rv a3, iv p4, iv p5, iv p6, rv w54, rv el2, rv b178, iv (0 : Int32)] [(.ref w54)])) rfl (by rw [hml]; rfl) [] [] (lenOf own_pd_12 rfl) rfl rfl (hb hby d5_78)
  obtain ⟨rfl, Nc207, Kc206, f201, f202, f203, f204, f205⟩ := hQ200
  refine own_go st200 ?_
  clear st200 X197 Kc198
  replace N0 := Fr.app N0 Nc207
  clear Nc207
  replace fp0 := fp0.keep Kc206
  replace fp1 := fp1.keep Kc206 (ninS ne63 nin0)
  replace fp2 := fp2.keep Kc206 (ninS ne63 nin0)
  replace fp3 := fp3.keep Kc206 (ninS ne63 nin0)
  replace fp4 := fp4.keep Kc206 (ninS ne63 nin0)
  replace fp5 := fp5.keep Kc206 (ninS ne63 nin0)
  replace fp6 := fp6.keep Kc206 (ninS ne63 nin0)
  replace fp7 := fp7.keep Kc206 (ninS ne63 nin0)
  replace fp8 := fp8.keep Kc206 (ninS ne63 nin0)
  replace B14 := B14.keep Kc206
  replace B23 := B23.keep Kc206
  replace B33 := B33.keep Kc206
  replace B44 := B44.keep Kc206
  replace f137 := f137.keep Kc206
  replace B115 := B115.keep Kc206
  replace f124 := f124.keep Kc206 (ninS ne121.symm nin0)
  clear f138
  clear f139
  clear f140
  clear f141
  replace f154 := f154.keep Kc206 (ninS ne64 nin0)
  replace f164 := f164.keep Kc206 (ninS ne65 nin0)
  replace f174 := f174.keep Kc206 (ninS ne66 nin0)
  replace B178 := B178.keep Kc206
  replace f188 := f188.keep Kc206 (ninS ne184.symm nin0)
  replace f196 := f196.keep Kc206 (ninS ne67 nin0)
  replace O0 := own_oldKeep O0 Kc206 (allS big68 all0)
  replace K0 := K0.trans Kc206 (allS (Or.inr sz69) all0)
  clear Kc206
  show own_Go p e below s _ _ _ (T200.setTop (mkF m 83 #[rv a1, iv p2, rv a3, iv p4, iv p5, iv p6, rv w54, rv el2, rv b178, iv (0 : Int32)] [(.ref el3)]))
  obtain ⟨T208, X208, e208, st208⟩ := castY X200 hx hZ hown (ow190 hw) (rfl : T200.heap = T200.heap) (Ins.self (fp28.keep K0)) (g := (mkF m 83 #[rv a1, iv p2, rv a3, iv p4, iv p5, iv p6, rv w54, rv el2, rv b178, iv (0 : Int32)] [(.ref el3)])) rfl rfl (hb hby d5_83)
  refine own_go st208 ?_
  clear st208 X200
  refine own_go (fun _ k => XS.astore X208.here hx rfl (hb hby d5_86) rfl rfl (l' := #[rv a1, iv p2, rv a3, iv p4, iv p5, iv p6, rv w54, rv el3, rv b178, iv (0 : Int32)]) rfl k) ?_
  refine own_go (fun _ k => XS.aloadN X208.here hx rfl (hb hby d5_88) rfl rfl k) ?_
  obtain ⟨T209, X209, e209, st209⟩ := getF X208 hx hZ hown (host := "") (Or.inl (ow48 hw)) Via.refl e208 fp2 (g := (mkF m 89 #[rv a1, iv p2, rv a3, iv p4, iv p5, iv p6, rv w54, rv el3, rv b178, iv (0 : Int32)] [(.ref a1)])) rfl rfl (hb hby d5_89)
  refine own_go st209 ?_
  clear st209 X208 e208
  refine own_go (fun _ k => XS.aload X209.here hx rfl (hb hby d5_92) rfl rfl k) ?_
  obtain ⟨v210, T210, L210, X210, hQ210, st210⟩ := own_callV (y := (⟨"com/example/nudo/nudo/Vehicle", "trip", "()I"⟩ : MethodName)) (z := (⟨"com/example/nudo/nudo/Vehicle", "trip", "()I"⟩ : MethodName)) X209 hx hZ hown (ow192 hw) (ow193 hw) (notFace_of_selects (args := #[]) (mvT hZ (ow195 hw))) (ow195 hw) (ow194 hw) (ow111 hw) (ow196 hw) (rm_vtrip l Z a0 hw oDE oDV [] el3 (2 : Int32) T200.heap O0 (fp31.keep K0 (ninS ne7 nin0))) 1 0 0 (by show _ ≤ 8; omega) (by show _ ≤ 16; omega) e209 (fp28.keep K0) (g := (mkF m 94 #[rv a1, iv p2, rv a3, iv p4, iv p5, iv p6, rv w54, rv el3, rv b178, iv (0 : Int32)] [(.ref el3), (.ref b14)])) rfl (by rw [hml]; rfl) [] [(.ref b14)] (lenOf own_pd_9 rfl) rfl rfl (hb hby d5_94)
  obtain ⟨rfl, Nc212, Kc211⟩ := hQ210
  refine own_go st210 ?_
  clear st210 X209 e209
  replace N0 := Fr.app N0 Nc212
  clear Nc212
  refine own_go (fun _ k => XS.aload X210.here hx rfl (hb hby d5_97) rfl rfl k) ?_
  show own_Go p e below s _ _ _ (T210.setTop (mkF m 99 #[rv a1, iv p2, rv a3, iv p4, iv p5, iv p6, rv w54, rv el3, rv b178, iv (0 : Int32)] [(.ref el3), (.int (2 : Int32)), (.ref b14)]))
  obtain ⟨v213, T213, L213, X213, hQ213, st213⟩ := own_callV (y := (⟨"com/example/nudo/nudo/Vehicle", "departureStep", "()I"⟩ : MethodName)) (z := (⟨"com/example/nudo/nudo/Vehicle", "departureStep", "()I"⟩ : MethodName)) X210 hx hZ hown (ow197 hw) (ow198 hw) (notFace_of_selects (args := #[]) (mvT hZ (ow200 hw))) (ow200 hw) (ow199 hw) (ow111 hw) (ow201 hw) (rm_vdepartureStep l Z a0 hw oDE oDV [] el3 d2 T200.heap O0 (fp33.keep K0 (ninS ne7 nin0))) 2 0 0 (by show _ ≤ 8; omega) (by show _ ≤ 16; omega) Kc211 (fp28.keep K0) (g := (mkF m 99 #[rv a1, iv p2, rv a3, iv p4, iv p5, iv p6, rv w54, rv el3, rv b178, iv (0 : Int32)] [(.ref el3), (.int (2 : Int32)), (.ref b14)])) rfl (by rw [hml]; rfl) [] [(.int (2 : Int32)), (.ref b14)] (lenOf own_pd_9 rfl) rfl rfl (hb hby d5_99)
  obtain ⟨rfl, Nc215, Kc214⟩ := hQ213
  refine own_go st213 ?_
  clear st213 X210 Kc211
  replace N0 := Fr.app N0 Nc215
  clear Nc215
  obtain ⟨cl216, Ar216, q216, S216, M216, P216, G216⟩ := id f154
  have hin216 : ¬ ((2 : Int32) < 0 ∨ cl216.slots.size ≤ ((2 : Int32)).toNatClampNeg) := inb_of S216 ⟨by decide, by decide⟩
  obtain ⟨T217, h217, X217, e217, W217, st217⟩ := stI X213 hx hZ Kc214 Ar216 (j := (2 : Int32)) hin216 (g := (mkF m 102 #[rv a1, iv p2, rv a3, iv p4, iv p5, iv p6, rv w54, rv el3, rv b178, iv (0 : Int32)] [(.int d2), (.int (2 : Int32)), (.ref b14)])) rfl rfl (hb hby d5_102)
  refine own_go st217 ?_
  clear st217 X213 Kc214
  have f218 : Arv Z h217 b14 k14 .int (3 : Int32) [(.int d0), (.int d1), (.int d2)] (.int (0 : Int32)) := Arv.set Ar216 q216 S216 M216 P216 G216 rfl W217 2 rfl (Nat.le_of_ble_eq_true rfl)
  replace N0 := Fr.snoc X217 N0 big16
  replace fp0 := fp0.wr W217
  replace fp1 := fp1.other W217 (Or.inl ne15)
  replace fp2 := fp2.other W217 (Or.inl ne15)
  replace fp3 := fp3.other W217 (Or.inl ne15)
  replace fp4 := fp4.other W217 (Or.inl ne15)
  replace fp5 := fp5.other W217 (Or.inl ne15)
  replace fp6 := fp6.other W217 (Or.inl ne15)
  replace fp7 := fp7.other W217 (Or.inl ne15)
  replace fp8 := fp8.other W217 (Or.inl ne15)
  replace B14 := B14.wr W217
  replace B23 := B23.wr W217
  replace B33 := B33.wr W217
  replace B44 := B44.wr W217
  replace f201 := f201.wr W217
  replace B115 := B115.wr W217
  replace f124 := f124.other W217 ne117.symm
  clear f154
  replace f164 := f164.other W217 ne25.symm
  replace f174 := f174.other W217 ne35.symm
  replace B178 := B178.wr W217
  replace f188 := f188.other W217 ne180.symm
  replace f196 := f196.other W217 ne46.symm
  replace f202 := f202.other W217 (Or.inl ne64.symm)
  replace f203 := f203.other W217 (Or.inl ne64.symm)
  replace f204 := f204.other W217 (Or.inl ne64.symm)
  replace f205 := f205.other W217 (Or.inl ne64.symm)
  replace O0 := own_oldWr O0 W217 big16
  replace K0 := K0.wr W217 (Or.inr sz17)
  clear W217
  clear Ar216 q216 S216 M216 P216 G216 hin216
  refine own_go (fun _ k => XS.aloadN X217.here hx rfl (hb hby d5_103) rfl rfl k) ?_
  obtain ⟨T219, X219, e219, st219⟩ := getF X217 hx hZ hown (host := "") (Or.inl (ow50 hw)) Via.refl e217 fp3 (g := (mkF m 104 #[rv a1, iv p2, rv a3, iv p4, iv p5, iv p6, rv w54, rv el3, rv b178, iv (0 : Int32)] [(.ref a1)])) rfl rfl (hb hby d5_104)
  refine own_go st219 ?_
  clear st219 X217 e217
  refine own_go (fun _ k => XS.aload X219.here hx rfl (hb hby d5_107) rfl rfl k) ?_
  obtain ⟨v220, T220, L220, X220, hQ220, st220⟩ := own_callV (y := (⟨"com/example/nudo/nudo/Vehicle", "trip", "()I"⟩ : MethodName)) (z := (⟨"com/example/nudo/nudo/Vehicle", "trip", "()I"⟩ : MethodName)) X219 hx hZ hown (ow192 hw) (ow193 hw) (notFace_of_selects (args := #[]) (mvT hZ (ow195 hw))) (ow195 hw) (ow194 hw) (ow111 hw) (ow196 hw) (rm_vtrip l Z a0 hw oDE oDV [] el3 (2 : Int32) h217 O0 (fp31.keep K0 (ninS ne7 nin0))) 1 0 0 (by show _ ≤ 8; omega) (by show _ ≤ 16; omega) e219 (fp28.keep K0) (g := (mkF m 109 #[rv a1, iv p2, rv a3, iv p4, iv p5, iv p6, rv w54, rv el3, rv b178, iv (0 : Int32)] [(.ref el3), (.ref b23)])) rfl (by rw [hml]; rfl) [] [(.ref b23)] (lenOf own_pd_9 rfl) rfl rfl (hb hby d5_109)
  obtain ⟨rfl, Nc222, Kc221⟩ := hQ220
  refine own_go st220 ?_
  clear st220 X219 e219
  replace N0 := Fr.app N0 Nc222
  clear Nc222
  refine own_go (fun _ k => XS.aload X220.here hx rfl (hb hby d5_112) rfl rfl k) ?_
  show own_Go p e below s _ _ _ (T220.setTop (mkF m 114 #[rv a1, iv p2, rv a3, iv p4, iv p5, iv p6, rv w54, rv el3, rv b178, iv (0 : Int32)] [(.ref el3), (.int (2 : Int32)), (.ref b23)]))
  obtain ⟨v223, T223, L223, X223, hQ223, st223⟩ := own_callV (y := (⟨"com/example/nudo/nudo/Vehicle", "exitStep", "()I"⟩ : MethodName)) (z := (⟨"com/example/nudo/nudo/Vehicle", "exitStep", "()I"⟩ : MethodName)) X220 hx hZ hown (ow202 hw) (ow203 hw) (notFace_of_selects (args := #[]) (mvT hZ (ow205 hw))) (ow205 hw) (ow204 hw) (ow111 hw) (ow206 hw) (rm_vexitStep l Z a0 hw oDE oDV [] el3 x2 h217 O0 (fp30.keep K0 (ninS ne7 nin0))) 2 0 0 (by show _ ≤ 8; omega) (by show _ ≤ 16; omega) Kc221 (fp28.keep K0) (g := (mkF m 114 #[rv a1, iv p2, rv a3, iv p4, iv p5, iv p6, rv w54, rv el3, rv b178, iv (0 : Int32)] [(.ref el3), (.int (2 : Int32)), (.ref b23)])) rfl (by rw [hml]; rfl) [] [(.int (2 : Int32)), (.ref b23)] (lenOf own_pd_9 rfl) rfl rfl (hb hby d5_114)
  obtain ⟨rfl, Nc225, Kc224⟩ := hQ223
  refine own_go st223 ?_
  clear st223 X220 Kc221
  replace N0 := Fr.app N0 Nc225
  clear Nc225
  obtain ⟨cl226, Ar226, q226, S226, M226, P226, G226⟩ := id f164
  have hin226 : ¬ ((2 : Int32) < 0 ∨ cl226.slots.size ≤ ((2 : Int32)).toNatClampNeg) := inb_of S226 ⟨by decide, by decide⟩
  obtain ⟨T227, h227, X227, e227, W227, st227⟩ := stI X223 hx hZ Kc224 Ar226 (j := (2 : Int32)) hin226 (g := (mkF m 117 #[rv a1, iv p2, rv a3, iv p4, iv p5, iv p6, rv w54, rv el3, rv b178, iv (0 : Int32)] [(.int x2), (.int (2 : Int32)), (.ref b23)])) rfl rfl (hb hby d5_117)
  refine own_go st227 ?_
  clear st227 X223 Kc224
  have f228 : Arv Z h227 b23 k23 .int (3 : Int32) [(.int x0), (.int x1), (.int x2)] (.int (0 : Int32)) := Arv.set Ar226 q226 S226 M226 P226 G226 rfl W227 2 rfl (Nat.le_of_ble_eq_true rfl)
  replace N0 := Fr.snoc X227 N0 big26
  replace fp0 := fp0.wr W227
  replace fp1 := fp1.other W227 (Or.inl ne24)
  replace fp2 := fp2.other W227 (Or.inl ne24)
  replace fp3 := fp3.other W227 (Or.inl ne24)
  replace fp4 := fp4.other W227 (Or.inl ne24)
  replace fp5 := fp5.other W227 (Or.inl ne24)
  replace fp6 := fp6.other W227 (Or.inl ne24)
  replace fp7 := fp7.other W227 (Or.inl ne24)
  replace fp8 := fp8.other W227 (Or.inl ne24)
  replace B14 := B14.wr W227
  replace B23 := B23.wr W227
  replace B33 := B33.wr W227
  replace B44 := B44.wr W227
  replace f201 := f201.wr W227
  replace B115 := B115.wr W227
  replace f124 := f124.other W227 ne118.symm
  clear f164
  replace f174 := f174.other W227 ne36.symm
  replace B178 := B178.wr W227
  replace f188 := f188.other W227 ne181.symm
  replace f196 := f196.other W227 ne47.symm
  replace f202 := f202.other W227 (Or.inl ne65.symm)
  replace f203 := f203.other W227 (Or.inl ne65.symm)
  replace f204 := f204.other W227 (Or.inl ne65.symm)
  replace f205 := f205.other W227 (Or.inl ne65.symm)
  replace f218 := f218.other W227 ne25
  replace O0 := own_oldWr O0 W227 big26
  replace K0 := K0.wr W227 (Or.inr sz27)
  clear W227
  clear Ar226 q226 S226 M226 P226 G226 hin226
  refine own_go (fun _ k => XS.aloadN X227.here hx rfl (hb hby d5_118) rfl rfl k) ?_
  obtain ⟨T229, X229, e229, st229⟩ := getF X227 hx hZ hown (host := "") (Or.inl (ow52 hw)) Via.refl e227 fp4 (g := (mkF m 119 #[rv a1, iv p2, rv a3, iv p4, iv p5, iv p6, rv w54, rv el3, rv b178, iv (0 : Int32)] [(.ref a1)])) rfl rfl (hb hby d5_119)
  refine own_go st229 ?_
  clear st229 X227 e227
  refine own_go (fun _ k => XS.aload X229.here hx rfl (hb hby d5_122) rfl rfl k) ?_
  obtain ⟨v230, T230, L230, X230, hQ230, st230⟩ := own_callV (y := (⟨"com/example/nudo/nudo/Vehicle", "trip", "()I"⟩ : MethodName)) (z := (⟨"com/example/nudo/nudo/Vehicle", "trip", "()I"⟩ : MethodName)) X229 hx hZ hown (ow192 hw) (ow193 hw) (notFace_of_selects (args := #[]) (mvT hZ (ow195 hw))) (ow195 hw) (ow194 hw) (ow111 hw) (ow196 hw) (rm_vtrip l Z a0 hw oDE oDV [] el3 (2 : Int32) h227 O0 (fp31.keep K0 (ninS ne7 nin0))) 1 0 0 (by show _ ≤ 8; omega) (by show _ ≤ 16; omega) e229 (fp28.keep K0) (g := (mkF m 124 #[rv a1, iv p2, rv a3, iv p4, iv p5, iv p6, rv w54, rv el3, rv b178, iv (0 : Int32)] [(.ref el3), (.ref b33)])) rfl (by rw [hml]; rfl) [] [(.ref b33)] (lenOf own_pd_9 rfl) rfl rfl (hb hby d5_124)
  obtain ⟨rfl, Nc232, Kc231⟩ := hQ230
  refine own_go st230 ?_
  clear st230 X229 e229
  replace N0 := Fr.app N0 Nc232
  clear Nc232
  refine own_go (fun _ k => XS.aload X230.here hx rfl (hb hby d5_127) rfl rfl k) ?_
  show own_Go p e below s _ _ _ (T230.setTop (mkF m 129 #[rv a1, iv p2, rv a3, iv p4, iv p5, iv p6, rv w54, rv el3, rv b178, iv (0 : Int32)] [(.ref el3), (.int (2 : Int32)), (.ref b33)]))
  obtain ⟨v233, T233, L233, X233, hQ233, st233⟩ := own_callV (y := (⟨"com/example/nudo/nudo/Vehicle", "pathCells", "()I"⟩ : MethodName)) (z := (⟨"com/example/nudo/nudo/Vehicle", "pathCells", "()I"⟩ : MethodName)) X230 hx hZ hown (ow207 hw) (ow208 hw) (notFace_of_selects (args := #[]) (mvT hZ (ow210 hw))) (ow210 hw) (ow209 hw) (ow111 hw) (ow211 hw) (rm_vpc l Z a0 hw oDE oDV [] el3 pa2 kp2 h227 O0 (fp32.keep K0 (ninS ne7 nin0)) (fp34.keep K0 (ninS ne8 nin0))) 2 0 0 (by show _ ≤ 8; omega) (by show _ ≤ 16; omega) Kc231 (fp28.keep K0) (g := (mkF m 129 #[rv a1, iv p2, rv a3, iv p4, iv p5, iv p6, rv w54, rv el3, rv b178, iv (0 : Int32)] [(.ref el3), (.int (2 : Int32)), (.ref b33)])) rfl (by rw [hml]; rfl) [] [(.int (2 : Int32)), (.ref b33)] (lenOf own_pd_9 rfl) rfl rfl (hb hby d5_129)
  obtain ⟨rfl, Nc235, Kc234⟩ := hQ233
  refine own_go st233 ?_
  clear st233 X230 Kc231
  replace N0 := Fr.app N0 Nc235
  clear Nc235
  obtain ⟨cl236, Ar236, q236, S236, M236, P236, G236⟩ := id f174
  have hin236 : ¬ ((2 : Int32) < 0 ∨ cl236.slots.size ≤ ((2 : Int32)).toNatClampNeg) := inb_of S236 ⟨by decide, by decide⟩
  obtain ⟨T237, h237, X237, e237, W237, st237⟩ := stI X233 hx hZ Kc234 Ar236 (j := (2 : Int32)) hin236 (g := (mkF m 132 #[rv a1, iv p2, rv a3, iv p4, iv p5, iv p6, rv w54, rv el3, rv b178, iv (0 : Int32)] [(.int (0 : Int32)), (.int (2 : Int32)), (.ref b33)])) rfl rfl (hb hby d5_132)
  refine own_go st237 ?_
  clear st237 X233 Kc234
  have f238 : Arv Z h237 b33 k33 .int (3 : Int32) [(.int (0 : Int32)), (.int (0 : Int32)), (.int (0 : Int32))] (.int (0 : Int32)) := Arv.set Ar236 q236 S236 M236 P236 G236 rfl W237 2 rfl (Nat.le_of_ble_eq_true rfl)
  replace N0 := Fr.snoc X237 N0 big37
  replace fp0 := fp0.wr W237
  replace fp1 := fp1.other W237 (Or.inl ne34)
  replace fp2 := fp2.other W237 (Or.inl ne34)
  replace fp3 := fp3.other W237 (Or.inl ne34)
  replace fp4 := fp4.other W237 (Or.inl ne34)
  replace fp5 := fp5.other W237 (Or.inl ne34)
  replace fp6 := fp6.other W237 (Or.inl ne34)
  replace fp7 := fp7.other W237 (Or.inl ne34)
  replace fp8 := fp8.other W237 (Or.inl ne34)
  replace B14 := B14.wr W237
  replace B23 := B23.wr W237
  replace B33 := B33.wr W237
  replace B44 := B44.wr W237
  replace f201 := f201.wr W237
  replace B115 := B115.wr W237
  replace f124 := f124.other W237 ne119.symm
  clear f174
  replace B178 := B178.wr W237
  replace f188 := f188.other W237 ne182.symm
  replace f196 := f196.other W237 ne48.symm
  replace f202 := f202.other W237 (Or.inl ne66.symm)
  replace f203 := f203.other W237 (Or.inl ne66.symm)
  replace f204 := f204.other W237 (Or.inl ne66.symm)
  replace f205 := f205.other W237 (Or.inl ne66.symm)
  replace f218 := f218.other W237 ne35
  replace f228 := f228.other W237 ne36
  replace O0 := own_oldWr O0 W237 big37
  replace K0 := K0.wr W237 (Or.inr sz38)
  clear W237
  clear Ar236 q236 S236 M236 P236 G236 hin236
  refine own_go (fun _ k => XS.aload X237.here hx rfl (hb hby d5_133) rfl rfl k) ?_
  obtain ⟨v239, T239, L239, X239, hQ239, st239⟩ := own_callV (y := (⟨"com/example/nudo/nudo/Vehicle", "linksEntered", "()I"⟩ : MethodName)) (z := (⟨"com/example/nudo/nudo/Vehicle", "linksEntered", "()I"⟩ : MethodName)) X237 hx hZ hown (ow212 hw) (ow213 hw) (notFace_of_selects (args := #[]) (mvT hZ (ow215 hw))) (ow215 hw) (ow214 hw) (ow111 hw) (ow216 hw) (rm_vle l Z a0 hw oDE oDV [] el3 h237 O0 (fp29.keep K0 (ninS ne7 nin0))) 0 0 0 (by show _ ≤ 8; omega) (by show _ ≤ 16; omega) e237 (fp28.keep K0) (g := (mkF m 135 #[rv a1, iv p2, rv a3, iv p4, iv p5, iv p6, rv w54, rv el3, rv b178, iv (0 : Int32)] [(.ref el3)])) rfl (by rw [hml]; rfl) [] [] (lenOf own_pd_9 rfl) rfl rfl (hb hby d5_135)
  obtain ⟨rfl, Nc241, Kc240⟩ := hQ239
  refine own_go st239 ?_
  clear st239 X237 e237
  replace N0 := Fr.app N0 Nc241
  clear Nc241
  obtain ⟨T242, h242, k242, X242, e242, E242, A242, B242, st242⟩ := newPE (aty := .int) X239 hx hZ (ow47 hw) Kc240 (g := (mkF m 138 #[rv a1, iv p2, rv a3, iv p4, iv p5, iv p6, rv w54, rv el3, rv b178, iv (0 : Int32)] [(.int (0 : Int32))])) rfl (hb hby d5_138) rfl (by decide) (cap := 0) (by decide) (by decide) (by show _ ≤ 8; omega) (by show _ ≤ 16; omega) (ad := "[I") (by decide)
  obtain ⟨b242, g242⟩ : ∃ z, z = h237.size := ⟨_, rfl⟩
  rw [← g242] at A242 B242 st242
  refine own_go st242 ?_
  clear st242 X239 Kc240
  have ge242 := Nat.le_of_eq g242.symm
  have ne243 : a1 ≠ b242 := Nat.ne_of_lt (Nat.lt_of_lt_of_le fp0.lt ge242)
  have ne244 : b14 ≠ b242 := Nat.ne_of_lt (Nat.lt_of_lt_of_le B14.lt ge242)
  have ne245 : b23 ≠ b242 := Nat.ne_of_lt (Nat.lt_of_lt_of_le B23.lt ge242)
  have ne246 : b33 ≠ b242 := Nat.ne_of_lt (Nat.lt_of_lt_of_le B33.lt ge242)
  have ne247 : b44 ≠ b242 := Nat.ne_of_lt (Nat.lt_of_lt_of_le B44.lt ge242)
  have ne248 : w54 ≠ b242 := Nat.ne_of_lt (Nat.lt_of_lt_of_le f201.lt ge242)
  have ne249 : b115 ≠ b242 := Nat.ne_of_lt (Nat.lt_of_lt_of_le B115.lt ge242)
  have ne250 : b178 ≠ b242 := Nat.ne_of_lt (Nat.lt_of_lt_of_le B178.lt ge242)
  have big251 : Z.heap.size ≤ b242 := Nat.le_trans O0.1 ge242
  have sz252 : h0.size ≤ b242 := Nat.le_trans K0.1 ge242
  replace fp0 := fp0.ext E242
  replace fp1 := fp1.ext E242
  replace fp2 := fp2.ext E242
  replace fp3 := fp3.ext E242
  replace fp4 := fp4.ext E242
  replace fp5 := fp5.ext E242
  replace fp6 := fp6.ext E242
  replace fp7 := fp7.ext E242
  replace fp8 := fp8.ext E242
  replace B14 := B14.ext E242
  replace B23 := B23.ext E242
  replace B33 := B33.ext E242
  replace B44 := B44.ext E242
  replace f201 := f201.ext E242
  replace B115 := B115.ext E242
  replace f124 := f124.ext E242
  replace B178 := B178.ext E242
  replace f188 := f188.ext E242
  replace f196 := f196.ext E242
  replace f202 := f202.ext E242
  replace f203 := f203.ext E242
  replace f204 := f204.ext E242
  replace f205 := f205.ext E242
  replace f218 := f218.ext E242
  replace f228 := f228.ext E242
  replace f238 := f238.ext E242
  replace O0 := own_oldExt O0 E242
  replace K0 := K0.ext E242
  clear E242
  have f253 : Arv Z h242 b242 k242 .int (0 : Int32) [] (.int (0 : Int32)) := (Arv.new A242 (by decide)).pad (pad_rep [] (.int (0 : Int32)) 0)
  refine own_go (fun _ k => XS.astore X242.here hx rfl (hb hby d5_140) rfl rfl (l' := #[rv a1, iv p2, rv a3, iv p4, iv p5, iv p6, rv w54, rv el3, rv b242, iv (0 : Int32)]) rfl k) ?_
  refine own_go (fun _ k => XS.iconst X242.here hx rfl (hb hby d5_142) k) ?_
  show own_Go p e below s _ _ _ (T242.setTop (mkF m 143 #[rv a1, iv p2, rv a3, iv p4, iv p5, iv p6, rv w54, rv el3, rv b242, iv (0 : Int32)] [(.int (0 : Int32))]))
  refine own_go (fun _ k => XS.istore X242.here hx rfl (hb hby d5_143) rfl (l' := #[rv a1, iv p2, rv a3, iv p4, iv p5, iv p6, rv w54, rv el3, rv b242, iv (0 : Int32)]) rfl k) ?_
  refine own_go (fun _ k => XS.iload X242.here hx rfl (hb hby d5_145) rfl k) ?_
  refine own_go (fun _ k => XS.aload X242.here hx rfl (hb hby d5_147) rfl rfl k) ?_
  show own_Go p e below s _ _ _ (T242.setTop (mkF m 149 #[rv a1, iv p2, rv a3, iv p4, iv p5, iv p6, rv w54, rv el3, rv b242, iv (0 : Int32)] [(.ref b242), (.int (0 : Int32))]))
  obtain ⟨cl254, Ar254, -, S254, M254, -, -⟩ := id f253
  refine own_go (X242.arraylength hx (by rw [e242]; exact Ar254.1) (State.isArrayOf_alike hZ.alike Ar254.2.1) (g := (mkF m 149 #[rv a1, iv p2, rv a3, iv p4, iv p5, iv p6, rv w54, rv el3, rv b242, iv (0 : Int32)] [(.ref b242), (.int (0 : Int32))])) rfl rfl (hb hby d5_149)) ?_
  rw [len_of S254 M254]
  refine own_go (fun _ k => XS.icmpYes X242.here hx rfl (pc0 := 150) (pc' := 171) rfl (hb hby d5_150) rfl (flt (by decide : ¬ ((0 : Int32) < (0 : Int32)))).2.1 (by decide) (by decide) k) ?_
  refine own_go (fun _ k => XS.aloadN X242.here hx rfl (hb hby d5_171) rfl rfl k) ?_
  obtain ⟨T255, X255, e255, st255⟩ := getF X242 hx hZ hown (host := "") (Or.inl (ow56 hw)) Via.refl e242 fp5 (g := (mkF m 172 #[rv a1, iv p2, rv a3, iv p4, iv p5, iv p6, rv w54, rv el3, rv b242, iv (0 : Int32)] [(.ref a1)])) rfl rfl (hb hby d5_172)
  refine own_go st255 ?_
  clear st255 X242 e242
  refine own_go (fun _ k => XS.aload X255.here hx rfl (hb hby d5_175) rfl rfl k) ?_
  obtain ⟨v256, T256, L256, X256, hQ256, st256⟩ := own_callV (y := (⟨"com/example/nudo/nudo/Vehicle", "trip", "()I"⟩ : MethodName)) (z := (⟨"com/example/nudo/nudo/Vehicle", "trip", "()I"⟩ : MethodName)) X255 hx hZ hown (ow192 hw) (ow193 hw) (notFace_of_selects (args := #[]) (mvT hZ (ow195 hw))) (ow195 hw) (ow194 hw) (ow111 hw) (ow196 hw) (rm_vtrip l Z a0 hw oDE oDV [] el3 (2 : Int32) h242 O0 (fp31.keep K0 (ninS ne7 nin0))) 1 0 0 (by show _ ≤ 8; omega) (by show _ ≤ 16; omega) e255 (fp28.keep K0) (g := (mkF m 177 #[rv a1, iv p2, rv a3, iv p4, iv p5, iv p6, rv w54, rv el3, rv b242, iv (0 : Int32)] [(.ref el3), (.ref b44)])) rfl (by rw [hml]; rfl) [] [(.ref b44)] (lenOf own_pd_9 rfl) rfl rfl (hb hby d5_177)
  obtain ⟨rfl, Nc258, Kc257⟩ := hQ256
  refine own_go st256 ?_
  clear st256 X255 e255
  replace N0 := Fr.app N0 Nc258
  clear Nc258
  refine own_go (fun _ k => XS.aload X256.here hx rfl (hb hby d5_180) rfl rfl k) ?_
  show own_Go p e below s _ _ _ (T256.setTop (mkF m 182 #[rv a1, iv p2, rv a3, iv p4, iv p5, iv p6, rv w54, rv el3, rv b242, iv (0 : Int32)] [(.ref b242), (.int (2 : Int32)), (.ref b44)]))
  obtain ⟨cl259, Ar259, q259, S259, M259, P259, G259⟩ := id f196
  have hin259 : ¬ ((2 : Int32) < 0 ∨ cl259.slots.size ≤ ((2 : Int32)).toNatClampNeg) := inb_of S259 ⟨by decide, by decide⟩
  obtain ⟨T260, h260, X260, e260, W260, st260⟩ := stR X256 hx hZ Kc257 Ar259 (j := (2 : Int32)) hin259 rfl (Sto.ofVA Ar259 q259 O44 (Ins.self B242)) (g := (mkF m 182 #[rv a1, iv p2, rv a3, iv p4, iv p5, iv p6, rv w54, rv el3, rv b242, iv (0 : Int32)] [(.ref b242), (.int (2 : Int32)), (.ref b44)])) rfl rfl (hb hby d5_182)
  refine own_go st260 ?_
  clear st260 X256 Kc257
  have f261 : Arv Z h260 b44 k44 (.array .int) (3 : Int32) [(.ref b115), (.ref b178), (.ref b242)] .null := Arv.set Ar259 q259 S259 M259 P259 G259 rfl W260 2 rfl (Nat.le_of_ble_eq_true rfl)
  replace N0 := Fr.snoc X260 N0 big49
  replace fp0 := fp0.wr W260
  replace fp1 := fp1.other W260 (Or.inl ne45)
  replace fp2 := fp2.other W260 (Or.inl ne45)
  replace fp3 := fp3.other W260 (Or.inl ne45)
  replace fp4 := fp4.other W260 (Or.inl ne45)
  replace fp5 := fp5.other W260 (Or.inl ne45)
  replace fp6 := fp6.other W260 (Or.inl ne45)
  replace fp7 := fp7.other W260 (Or.inl ne45)
  replace fp8 := fp8.other W260 (Or.inl ne45)
  replace B14 := B14.wr W260
  replace B23 := B23.wr W260
  replace B33 := B33.wr W260
  replace B44 := B44.wr W260
  replace f201 := f201.wr W260
  replace B115 := B115.wr W260
  replace f124 := f124.other W260 ne120.symm
  replace B178 := B178.wr W260
  replace f188 := f188.other W260 ne183.symm
  clear f196
  replace f202 := f202.other W260 (Or.inl ne67.symm)
  replace f203 := f203.other W260 (Or.inl ne67.symm)
  replace f204 := f204.other W260 (Or.inl ne67.symm)
  replace f205 := f205.other W260 (Or.inl ne67.symm)
  replace f218 := f218.other W260 ne46
  replace f228 := f228.other W260 ne47
  replace f238 := f238.other W260 ne48
  replace B242 := B242.wr W260
  replace f253 := f253.other W260 ne247.symm
  replace O0 := own_oldWr O0 W260 big49
  replace K0 := K0.wr W260 (Or.inr sz50)
  clear W260
  clear Ar259 q259 S259 M259 P259 G259 hin259
  refine own_go (fun _ k => XS.goto X260.here hx rfl (pc0 := 183) (pc' := 66) rfl (hb hby d5_183) (by decide) (by decide) k) ?_
  refine own_go (fun _ k => XS.aload X260.here hx rfl (hb hby d5_66) rfl rfl k) ?_
  obtain ⟨v262, T262, L262, X262, hQ262, st262⟩ := own_callF (xi := (⟨"java/util/Iterator", "hasNext", "()Z"⟩ : MethodName)) (y := (⟨"java/util/ArrayList$Itr", "hasNext", "()Z"⟩ : MethodName)) X260 hx hZ hown (ow82 hw) (ow83 hw) (ow84 hw) (ow85 hw) (ow86 hw) (ow87 hw) (ow88 hw) (ow89 hw) (ow68 hw) (ow90 hw) (by decide) (rm_hn_3_3 l Z a0 hw oDE oDV [] w54 a3 h260 O0 f202 f203 (fp10.keep K0 (ninS ne1 nin0))) 0 0 0 (by show _ ≤ 8; omega) (by show _ ≤ 16; omega) e260 f201 (g := (mkF m 68 #[rv a1, iv p2, rv a3, iv p4, iv p5, iv p6, rv w54, rv el3, rv b242, iv (0 : Int32)] [(.ref w54)])) rfl (by rw [hml]; rfl) [] [] (lenOf own_pd_11 rfl) rfl rfl (hb hby d5_68)
  obtain ⟨rfl, Nc264, Kc263⟩ := hQ262
  refine own_go st262 ?_
  clear st262 X260 e260
  replace N0 := Fr.app N0 Nc264
  clear Nc264
  refine own_go (fun _ k => XS.ifYes X262.here hx rfl (pc0 := 73) (pc' := 186) rfl (hb hby d5_73) rfl ((if0 _ _).trans (teq (by decide : (0 : Int32) = (0 : Int32))).1) (by decide) (by decide) k) ?_
  refine own_go (fun _ k => XS.aloadN X262.here hx rfl (hb hby d5_186) rfl rfl k) ?_
  refine own_go (fun _ k => XS.iload X262.here hx rfl (hb hby d5_187) rfl k) ?_
  show own_Go p e below s _ _ _ (T262.setTop (mkF m 189 #[rv a1, iv p2, rv a3, iv p4, iv p5, iv p6, rv w54, rv el3, rv b242, iv (0 : Int32)] [(.int p6), (.ref a1)]))
  obtain ⟨T265, h265, X265, e265, W265, st265⟩ := putF X262 hx hZ hown (host := "") (Or.inl (ow94 hw)) Via.refl Kc263 fp6 fp0 (Or.inr ⟨(ow95 hw), rfl, hnm⟩) (ow28 hw) (ty := .int) own_fd0 rfl rfl (g := (mkF m 189 #[rv a1, iv p2, rv a3, iv p4, iv p5, iv p6, rv w54, rv el3, rv b242, iv (0 : Int32)] [(.int p6), (.ref a1)])) rfl rfl (hb hby d5_189)
  refine own_go st265 ?_
  clear st265 X262 Kc263
  replace N0 := Fr.snoc X265 N0 big_a1
  replace fp0 := fp0.wr W265
  replace fp1 := fp1.other W265 (.inr (own_sn49 hw).symm)
  replace fp2 := fp2.other W265 (.inr (own_sn55 hw).symm)
  replace fp3 := fp3.other W265 (.inr (own_sn60 hw).symm)
  replace fp4 := fp4.other W265 (.inr (own_sn64 hw).symm)
  replace fp5 := fp5.other W265 (.inr (own_sn67 hw).symm)
  replace fp6 := fp6.same W265
  replace fp7 := fp7.other W265 (.inr (own_sn70 hw))
  replace fp8 := fp8.other W265 (.inr (own_sn71 hw))
  replace B14 := B14.wr W265
  replace B23 := B23.wr W265
  replace B33 := B33.wr W265
  replace B44 := B44.wr W265
  replace f201 := f201.wr W265
  replace B115 := B115.wr W265
  replace f124 := f124.other W265 ne116.symm
  replace B178 := B178.wr W265
  replace f188 := f188.other W265 ne179.symm
  replace f202 := f202.other W265 (Or.inl ne63.symm)
  replace f203 := f203.other W265 (Or.inl ne63.symm)
  replace f204 := f204.other W265 (Or.inl ne63.symm)
  replace f205 := f205.other W265 (Or.inl ne63.symm)
  replace f218 := f218.other W265 ne15.symm
  replace f228 := f228.other W265 ne24.symm
  replace f238 := f238.other W265 ne34.symm
  replace B242 := B242.wr W265
  replace f253 := f253.other W265 ne243.symm
  replace f261 := f261.other W265 ne45.symm
  replace O0 := own_oldWr O0 W265 big_a1
  replace K0 := K0.wr W265 (Or.inl (List.mem_of_getElem? (i := 0) rfl))
  clear W265
  refine own_go (fun _ k => XS.aloadN X265.here hx rfl (hb hby d5_192) rfl rfl k) ?_
  refine own_go (fun _ k => XS.iloadN X265.here hx rfl (hb hby d5_193) rfl k) ?_
  obtain ⟨T266, h266, X266, e266, W266, st266⟩ := putF X265 hx hZ hown (host := "") (Or.inl (ow96 hw)) Via.refl e265 fp7 fp0 (Or.inr ⟨(ow97 hw), rfl, hnm⟩) (ow28 hw) (ty := .int) own_fd0 rfl rfl (g := (mkF m 194 #[rv a1, iv p2, rv a3, iv p4, iv p5, iv p6, rv w54, rv el3, rv b242, iv (0 : Int32)] [(.int p4), (.ref a1)])) rfl rfl (hb hby d5_194)
  refine own_go st266 ?_
  clear st266 X265 e265
  replace N0 := Fr.snoc X266 N0 big_a1
  replace fp0 := fp0.wr W266
  replace fp1 := fp1.other W266 (.inr (own_sn50 hw).symm)
  replace fp2 := fp2.other W266 (.inr (own_sn56 hw).symm)
  replace fp3 := fp3.other W266 (.inr (own_sn61 hw).symm)
  replace fp4 := fp4.other W266 (.inr (own_sn65 hw).symm)
  replace fp5 := fp5.other W266 (.inr (own_sn68 hw).symm)
  replace fp6 := fp6.other W266 (.inr (own_sn70 hw).symm)
  replace fp7 := fp7.same W266
  replace fp8 := fp8.other W266 (.inr (own_sn72 hw))
  replace B14 := B14.wr W266
  replace B23 := B23.wr W266
  replace B33 := B33.wr W266
  replace B44 := B44.wr W266
  replace f201 := f201.wr W266
  replace B115 := B115.wr W266
  replace f124 := f124.other W266 ne116.symm
  replace B178 := B178.wr W266
  replace f188 := f188.other W266 ne179.symm
  replace f202 := f202.other W266 (Or.inl ne63.symm)
  replace f203 := f203.other W266 (Or.inl ne63.symm)
  replace f204 := f204.other W266 (Or.inl ne63.symm)
  replace f205 := f205.other W266 (Or.inl ne63.symm)
  replace f218 := f218.other W266 ne15.symm
  replace f228 := f228.other W266 ne24.symm
  replace f238 := f238.other W266 ne34.symm
  replace B242 := B242.wr W266
  replace f253 := f253.other W266 ne243.symm
  replace f261 := f261.other W266 ne45.symm
  replace O0 := own_oldWr O0 W266 big_a1
  replace K0 := K0.wr W266 (Or.inl (List.mem_of_getElem? (i := 0) rfl))
  clear W266
  refine own_go (fun _ k => XS.aloadN X266.here hx rfl (hb hby d5_197) rfl rfl k) ?_
  refine own_go (fun _ k => XS.iload X266.here hx rfl (hb hby d5_198) rfl k) ?_
  obtain ⟨T267, h267, X267, e267, W267, st267⟩ := putF X266 hx hZ hown (host := "") (Or.inl (ow98 hw)) Via.refl e266 fp8 fp0 (Or.inr ⟨(ow99 hw), rfl, hnm⟩) (ow28 hw) (ty := .int) own_fd0 rfl rfl (g := (mkF m 200 #[rv a1, iv p2, rv a3, iv p4, iv p5, iv p6, rv w54, rv el3, rv b242, iv (0 : Int32)] [(.int p5), (.ref a1)])) rfl rfl (hb hby d5_200)
  refine own_go st267 ?_
  clear st267 X266 e266
  replace N0 := Fr.snoc X267 N0 big_a1
  replace fp0 := fp0.wr W267
  replace fp1 := fp1.other W267 (.inr (own_sn51 hw).symm)
  replace fp2 := fp2.other W267 (.inr (own_sn57 hw).symm)
  replace fp3 := fp3.other W267 (.inr (own_sn62 hw).symm)
  replace fp4 := fp4.other W267 (.inr (own_sn66 hw).symm)
  replace fp5 := fp5.other W267 (.inr (own_sn69 hw).symm)
  replace fp6 := fp6.other W267 (.inr (own_sn71 hw).symm)
  replace fp7 := fp7.other W267 (.inr (own_sn72 hw).symm)
  replace fp8 := fp8.same W267
  replace B14 := B14.wr W267
  replace B23 := B23.wr W267
  replace B33 := B33.wr W267
  replace B44 := B44.wr W267
  replace f201 := f201.wr W267
  replace B115 := B115.wr W267
  replace f124 := f124.other W267 ne116.symm
  replace B178 := B178.wr W267
  replace f188 := f188.other W267 ne179.symm
  replace f202 := f202.other W267 (Or.inl ne63.symm)
  replace f203 := f203.other W267 (Or.inl ne63.symm)
  replace f204 := f204.other W267 (Or.inl ne63.symm)
  replace f205 := f205.other W267 (Or.inl ne63.symm)
  replace f218 := f218.other W267 ne15.symm
  replace f228 := f228.other W267 ne24.symm
  replace f238 := f238.other W267 ne34.symm
  replace B242 := B242.wr W267
  replace f253 := f253.other W267 ne243.symm
  replace f261 := f261.other W267 ne45.symm
  replace O0 := own_oldWr O0 W267 big_a1
  replace K0 := K0.wr W267 (Or.inl (List.mem_of_getElem? (i := 0) rfl))
  clear W267
  show own_Go p e below s _ _ _ (T267.setTop (mkF m 203 #[rv a1, iv p2, rv a3, iv p4, iv p5, iv p6, rv w54, rv el3, rv b242, iv (0 : Int32)] []))
  refine own_retV X267 hx hlk e267 hret (hb hby d5_203) (by show _ ≤ 8; omega) (by show _ ≤ 16; omega) ?_
  exact ⟨b23, k23, rfl, N0, K0, fp0, fp3, fp7, fp8, f228⟩
theorem d10_0 : decode prog_30_method_3_code 0 = .ok (.aload_n 0, 1) := by decide +kernel
theorem d10_1 : decode prog_30_method_3_code 1 = .ok (.getfield 23, 3) := by decide +kernel
theorem d10_4 : decode prog_30_method_3_code 4 = .ok (.arraylength, 1) := by decide +kernel
theorem d10_5 : decode prog_30_method_3_code 5 = .ok (.aload_n 0, 1) := by decide +kernel
theorem d10_6 : decode prog_30_method_3_code 6 = .ok (.getfield 72, 3) := by decide +kernel
theorem d10_9 : decode prog_30_method_3_code 9 = .ok (.isub, 1) := by decide +kernel
theorem d10_10 : decode prog_30_method_3_code 10 = .ok (.aload_n 0, 1) := by decide +kernel
theorem d10_11 : decode prog_30_method_3_code 11 = .ok (.getfield 75, 3) := by decide +kernel
theorem d10_14 : decode prog_30_method_3_code 14 = .ok (.isub, 1) := by decide +kernel
theorem d10_15 : decode prog_30_method_3_code 15 = .ok (.ireturn, 1) := by decide +kernel
def Q_lrv_0 (Z : State) (wd : Addr) (kd : ClassId) (a1 : Addr) (xs : Addr) (kx : ClassId) (w : Int32) (k : Int32) (h0 : Heap) (v : Option Value) (h : Heap) (L : List Loc) : Prop := (v = some (.int (((0 : Int32) - w) - k)) ∧ Fr Z.heap.size L ∧ h = h0)
theorem ef_lrv_0 (m : MethodId) (x0 : Addr) : entryFrame m #[(.ref x0)] 1 = mkF m 0 #[rv x0] [] := by first | (simp [entryFrame, mkF, argsToLocals, Value.category]; done) | rfl
set_option maxRecDepth 65536 in
set_option maxHeartbeats 40000000 in
theorem rm_lrv_0 (l : Launch) (Z : State) (a0 : Array Value) (hw : ∀ d ∈ tables_1, d.before a0 Z = true) {wd : Addr} {kd : ClassId} (oDE : Sta Z Z.heap "java/util/ArrayList" "DEFAULTCAPACITY_EMPTY_ELEMENTDATA" "[Ljava/lang/Object;" (.ref wd)) (oDV : Arv Z Z.heap wd kd (.object "java/lang/Object") (0 : Int32) [] .null) (ws : List Jvm.Cond) (a1 : Addr) (xs : Addr) (kx : ClassId) (w : Int32) (k : Int32) (h0 : Heap) (O0 : Ext Z.heap h0) (fp0 : Fld Z h0 a1 "com/example/nudo/nudo/LoadingResult" "exitSteps" "[I" (.ref xs)) (fp1 : Arv Z h0 xs kx .int (0 : Int32) [] (.int (0 : Int32))) (fp2 : Fld Z h0 a1 "com/example/nudo/nudo/LoadingResult" "vehiclesWaiting" "I" (.int w)) (fp3 : Fld Z h0 a1 "com/example/nudo/nudo/LoadingResult" "vehiclesInNetwork" "I" (.int k)) :
    own_MF l Z h0 (⟨"com/example/nudo/nudo/LoadingResult", "vehiclesExited", "()I"⟩ : MethodName) prog_30_method_3_code 1 (some .int) ({ frames := 0, cells := 0, slots := 0, locals := 0 } : Room) #[(.ref a1)] (Q_lrv_0 Z wd kd a1 xs kx w k h0) ws := by
  refine own_met (Q := (Q_lrv_0 Z wd kd a1 xs kx w k h0)) _ _ (plainFor_of_name own_pn_7) ?_
  intro p e s m below meth c T X0 hx hby hml hret hlk hZ hown hnm e0
  replace hown : s.vm.findClass "com/example/nudo/nudo/LoadingResult" = some m.cls := hown
  replace hnm : meth.name = "vehiclesExited" := hnm
  have hml : c.maxLocals = 1 := hml
  have N0 := Fr.nil Z.heap.size
  have K0 := Keep.refl h0 []
  refine own_go (fun _ k => castTop (ef_lrv_0 m a1) k) ?_
  show own_Go p e below s _ _ _ (T.setTop (mkF m 0 #[rv a1] []))
  refine own_go (fun _ k => XS.aloadN X0.here hx rfl (hb hby d10_0) rfl rfl k) ?_
  obtain ⟨T1, X1, e1, st1⟩ := getF X0 hx hZ hown (host := "") (Or.inl (ow50 hw)) Via.refl e0 (fp0.keep K0 nin0) (g := (mkF m 1 #[rv a1] [(.ref a1)])) rfl rfl (hb hby d10_1)
  refine own_go st1 ?_
  clear st1 X0 e0
  show own_Go p e below s _ _ _ (T1.setTop (mkF m 4 #[rv a1] [(.ref xs)]))
  obtain ⟨cl2, Ar2, -, S2, M2, -, -⟩ := id (fp1.keep K0 nin0)
  refine own_go (X1.arraylength hx (by rw [e1]; exact Ar2.1) (State.isArrayOf_alike hZ.alike Ar2.2.1) (g := (mkF m 4 #[rv a1] [(.ref xs)])) rfl rfl (hb hby d10_4)) ?_
  rw [len_of S2 M2]
  refine own_go (fun _ k => XS.aloadN X1.here hx rfl (hb hby d10_5) rfl rfl k) ?_
  obtain ⟨T3, X3, e3, st3⟩ := getF X1 hx hZ hown (host := "") (Or.inl (ow96 hw)) Via.refl e1 (fp2.keep K0 nin0) (g := (mkF m 6 #[rv a1] [(.ref a1), (.int (0 : Int32))])) rfl rfl (hb hby d10_6)
  refine own_go st3 ?_
  clear st3 X1 e1
  refine own_go (fun _ k => XS.isub X3.here hx rfl (hb hby d10_9) rfl k) ?_
  refine own_go (fun _ k => XS.aloadN X3.here hx rfl (hb hby d10_10) rfl rfl k) ?_
  obtain ⟨T4, X4, e4, st4⟩ := getF X3 hx hZ hown (host := "") (Or.inl (ow98 hw)) Via.refl e3 (fp3.keep K0 nin0) (g := (mkF m 11 #[rv a1] [(.ref a1), (.int ((0 : Int32) - w))])) rfl rfl (hb hby d10_11)
  refine own_go st4 ?_
  clear st4 X3 e3
  refine own_go (fun _ k => XS.isub X4.here hx rfl (hb hby d10_14) rfl k) ?_
  show own_Go p e below s _ _ _ (T4.setTop (mkF m 15 #[rv a1] [(.int (((0 : Int32) - w) - k))]))
  refine own_retI X4 hx hlk e4 hret (hb hby d10_15) (by show _ ≤ 0; omega) (by show _ ≤ 0; omega) ?_
  exact ⟨rfl, N0, rfl⟩
theorem d28_0 : decode prog_30_method_6_code 0 = .ok (.aload_n 0, 1) := by decide +kernel
theorem d28_1 : decode prog_30_method_6_code 1 = .ok (.getfield 23, 3) := by decide +kernel
theorem d28_4 : decode prog_30_method_6_code 4 = .ok (.iload_n 1, 1) := by decide +kernel
theorem d28_5 : decode prog_30_method_6_code 5 = .ok (.iaload, 1) := by decide +kernel
theorem d28_6 : decode prog_30_method_6_code 6 = .ok (.ifCond .lt 7, 3) := by decide +kernel
theorem d28_9 : decode prog_30_method_6_code 9 = .ok (.iconst 1, 1) := by decide +kernel
theorem d28_10 : decode prog_30_method_6_code 10 = .ok (.goto 4, 3) := by decide +kernel
theorem d28_13 : decode prog_30_method_6_code 13 = .ok (.iconst 0, 1) := by decide +kernel
theorem d28_14 : decode prog_30_method_6_code 14 = .ok (.ireturn, 1) := by decide +kernel
def Q_lrx_1_0 (Z : State) (wd : Addr) (kd : ClassId) (a1 : Addr) (xs : Addr) (kx : ClassId) (x0 : Int32) (h0 : Heap) (v : Option Value) (h : Heap) (L : List Loc) : Prop := (v = some (.int (0 : Int32)) ∧ Fr Z.heap.size L ∧ x0 < (0 : Int32) ∧ h = h0) ∨ (v = some (.int (1 : Int32)) ∧ Fr Z.heap.size L ∧ ¬ (x0 < (0 : Int32)) ∧ h = h0)
theorem ef_lrx_1_0 (m : MethodId) (x0 : Addr) : entryFrame m #[(.ref x0), (.int (0 : Int32))] 2 = mkF m 0 #[rv x0, iv (0 : Int32)] [] := by first | (simp [entryFrame, mkF, argsToLocals, Value.category]; done) | rfl
set_option maxRecDepth 65536 in
set_option maxHeartbeats 40000000 in
theorem rm_lrx_1_0 (l : Launch) (Z : State) (a0 : Array Value) (hw : ∀ d ∈ tables_1, d.before a0 Z = true) {wd : Addr} {kd : ClassId} (oDE : Sta Z Z.heap "java/util/ArrayList" "DEFAULTCAPACITY_EMPTY_ELEMENTDATA" "[Ljava/lang/Object;" (.ref wd)) (oDV : Arv Z Z.heap wd kd (.object "java/lang/Object") (0 : Int32) [] .null) (ws : List Jvm.Cond) (a1 : Addr) (xs : Addr) (kx : ClassId) (x0 : Int32) (h0 : Heap) (O0 : Ext Z.heap h0) (fp0 : Fld Z h0 a1 "com/example/nudo/nudo/LoadingResult" "exitSteps" "[I" (.ref xs)) (fp1 : Arv Z h0 xs kx .int (1 : Int32) [(.int x0)] (.int (0 : Int32))) :
    own_MF l Z h0 (⟨"com/example/nudo/nudo/LoadingResult", "exited", "(I)Z"⟩ : MethodName) prog_30_method_6_code 2 (some .boolean) ({ frames := 0, cells := 0, slots := 0, locals := 0 } : Room) #[(.ref a1), (.int (0 : Int32))] (Q_lrx_1_0 Z wd kd a1 xs kx x0 h0) ws := by
  refine own_met (Q := (Q_lrx_1_0 Z wd kd a1 xs kx x0 h0)) _ _ (plainFor_of_name own_pn_7) ?_
  intro p e s m below meth c T X0 hx hby hml hret hlk hZ hown hnm e0
  replace hown : s.vm.findClass "com/example/nudo/nudo/LoadingResult" = some m.cls := hown
  replace hnm : meth.name = "exited" := hnm
  have hml : c.maxLocals = 2 := hml
  have N0 := Fr.nil Z.heap.size
  have K0 := Keep.refl h0 []
  refine own_go (fun _ k => castTop (ef_lrx_1_0 m a1) k) ?_
  show own_Go p e below s _ _ _ (T.setTop (mkF m 0 #[rv a1, iv (0 : Int32)] []))
  refine own_go (fun _ k => XS.aloadN X0.here hx rfl (hb hby d28_0) rfl rfl k) ?_
  obtain ⟨T1, X1, e1, st1⟩ := getF X0 hx hZ hown (host := "") (Or.inl (ow50 hw)) Via.refl e0 (fp0.keep K0 nin0) (g := (mkF m 1 #[rv a1, iv (0 : Int32)] [(.ref a1)])) rfl rfl (hb hby d28_1)
  refine own_go st1 ?_
  clear st1 X0 e0
  refine own_go (fun _ k => XS.iloadN X1.here hx rfl (hb hby d28_4) rfl k) ?_
  obtain ⟨cl2, Ar2, -, S2, -, P2, -⟩ := id (fp1.keep K0 nin0)
  have hin2 : ¬ ((0 : Int32) < 0 ∨ cl2.slots.size ≤ ((0 : Int32)).toNatClampNeg) := inb_of S2 ⟨by decide, by decide⟩
  refine own_go (X1.iaload hx (j := (0 : Int32)) (v := (.int x0)) (by rw [e1]; exact Ar2.1) (State.isArrayOf_alike hZ.alike Ar2.2.1) Ar2.2.2 hin2 (P2.at hin2 rfl) (g := (mkF m 5 #[rv a1, iv (0 : Int32)] [(.int (0 : Int32)), (.ref xs)])) rfl rfl (hb hby d28_5)) ?_
  by_cases hc3 : x0 < (0 : Int32)
  · refine own_go (fun _ k => XS.ifYes X1.here hx rfl (pc0 := 6) (pc' := 13) rfl (hb hby d28_6) rfl ((if0 _ _).trans (tlt hc3).1) (by decide) (by decide) k) ?_
    show own_Go p e below s _ _ _ (T1.setTop (mkF m 13 #[rv a1, iv (0 : Int32)] []))
    refine own_go (fun _ k => XS.iconst X1.here hx rfl (hb hby d28_13) k) ?_
    show own_Go p e below s _ _ _ (T1.setTop (mkF m 14 #[rv a1, iv (0 : Int32)] [(.int (0 : Int32))]))
    refine own_retN X1 hx hlk e1 (t := .boolean) hret (by simp) (hb hby d28_14) (by show _ ≤ 0; omega) (by show _ ≤ 0; omega) ?_
    exact Or.inl ⟨rfl, N0, hc3, rfl⟩
  · refine own_go (fun _ k => XS.ifNo X1.here hx rfl (hb hby d28_6) rfl ((if0 _ _).trans (flt hc3).1) k) ?_
    show own_Go p e below s _ _ _ (T1.setTop (mkF m 9 #[rv a1, iv (0 : Int32)] []))
    refine own_go (fun _ k => XS.iconst X1.here hx rfl (hb hby d28_9) k) ?_
    refine own_go (fun _ k => XS.goto X1.here hx rfl (pc0 := 10) (pc' := 14) rfl (hb hby d28_10) (by decide) (by decide) k) ?_
    show own_Go p e below s _ _ _ (T1.setTop (mkF m 14 #[rv a1, iv (0 : Int32)] [(.int (1 : Int32))]))
    refine own_retN X1 hx hlk e1 (t := .boolean) hret (by simp) (hb hby d28_14) (by show _ ≤ 0; omega) (by show _ ≤ 0; omega) ?_
    exact Or.inr (⟨rfl, N0, hc3, rfl⟩)
def Q_lrv_1 (Z : State) (wd : Addr) (kd : ClassId) (a1 : Addr) (xs : Addr) (kx : ClassId) (x0 : Int32) (w : Int32) (k : Int32) (h0 : Heap) (v : Option Value) (h : Heap) (L : List Loc) : Prop := (v = some (.int (((1 : Int32) - w) - k)) ∧ Fr Z.heap.size L ∧ h = h0)
theorem ef_lrv_1 (m : MethodId) (x0 : Addr) : entryFrame m #[(.ref x0)] 1 = mkF m 0 #[rv x0] [] := by first | (simp [entryFrame, mkF, argsToLocals, Value.category]; done) | rfl
set_option maxRecDepth 65536 in
set_option maxHeartbeats 40000000 in
theorem rm_lrv_1 (l : Launch) (Z : State) (a0 : Array Value) (hw : ∀ d ∈ tables_1, d.before a0 Z = true) {wd : Addr} {kd : ClassId} (oDE : Sta Z Z.heap "java/util/ArrayList" "DEFAULTCAPACITY_EMPTY_ELEMENTDATA" "[Ljava/lang/Object;" (.ref wd)) (oDV : Arv Z Z.heap wd kd (.object "java/lang/Object") (0 : Int32) [] .null) (ws : List Jvm.Cond) (a1 : Addr) (xs : Addr) (kx : ClassId) (x0 : Int32) (w : Int32) (k : Int32) (h0 : Heap) (O0 : Ext Z.heap h0) (fp0 : Fld Z h0 a1 "com/example/nudo/nudo/LoadingResult" "exitSteps" "[I" (.ref xs)) (fp1 : Arv Z h0 xs kx .int (1 : Int32) [(.int x0)] (.int (0 : Int32))) (fp2 : Fld Z h0 a1 "com/example/nudo/nudo/LoadingResult" "vehiclesWaiting" "I" (.int w)) (fp3 : Fld Z h0 a1 "com/example/nudo/nudo/LoadingResult" "vehiclesInNetwork" "I" (.int k)) :
    own_MF l Z h0 (⟨"com/example/nudo/nudo/LoadingResult", "vehiclesExited", "()I"⟩ : MethodName) prog_30_method_3_code 1 (some .int) ({ frames := 0, cells := 0, slots := 0, locals := 0 } : Room) #[(.ref a1)] (Q_lrv_1 Z wd kd a1 xs kx x0 w k h0) ws := by
  refine own_met (Q := (Q_lrv_1 Z wd kd a1 xs kx x0 w k h0)) _ _ (plainFor_of_name own_pn_7) ?_
  intro p e s m below meth c T X0 hx hby hml hret hlk hZ hown hnm e0
  replace hown : s.vm.findClass "com/example/nudo/nudo/LoadingResult" = some m.cls := hown
  replace hnm : meth.name = "vehiclesExited" := hnm
  have hml : c.maxLocals = 1 := hml
  have N0 := Fr.nil Z.heap.size
  have K0 := Keep.refl h0 []
  refine own_go (fun _ k => castTop (ef_lrv_1 m a1) k) ?_
  show own_Go p e below s _ _ _ (T.setTop (mkF m 0 #[rv a1] []))
  refine own_go (fun _ k => XS.aloadN X0.here hx rfl (hb hby d10_0) rfl rfl k) ?_
  obtain ⟨T1, X1, e1, st1⟩ := getF X0 hx hZ hown (host := "") (Or.inl (ow50 hw)) Via.refl e0 (fp0.keep K0 nin0) (g := (mkF m 1 #[rv a1] [(.ref a1)])) rfl rfl (hb hby d10_1)
  refine own_go st1 ?_
  clear st1 X0 e0
  show own_Go p e below s _ _ _ (T1.setTop (mkF m 4 #[rv a1] [(.ref xs)]))
  obtain ⟨cl2, Ar2, -, S2, M2, -, -⟩ := id (fp1.keep K0 nin0)
  refine own_go (X1.arraylength hx (by rw [e1]; exact Ar2.1) (State.isArrayOf_alike hZ.alike Ar2.2.1) (g := (mkF m 4 #[rv a1] [(.ref xs)])) rfl rfl (hb hby d10_4)) ?_
  rw [len_of S2 M2]
  refine own_go (fun _ k => XS.aloadN X1.here hx rfl (hb hby d10_5) rfl rfl k) ?_
  obtain ⟨T3, X3, e3, st3⟩ := getF X1 hx hZ hown (host := "") (Or.inl (ow96 hw)) Via.refl e1 (fp2.keep K0 nin0) (g := (mkF m 6 #[rv a1] [(.ref a1), (.int (1 : Int32))])) rfl rfl (hb hby d10_6)
  refine own_go st3 ?_
  clear st3 X1 e1
  refine own_go (fun _ k => XS.isub X3.here hx rfl (hb hby d10_9) rfl k) ?_
  refine own_go (fun _ k => XS.aloadN X3.here hx rfl (hb hby d10_10) rfl rfl k) ?_
  obtain ⟨T4, X4, e4, st4⟩ := getF X3 hx hZ hown (host := "") (Or.inl (ow98 hw)) Via.refl e3 (fp3.keep K0 nin0) (g := (mkF m 11 #[rv a1] [(.ref a1), (.int ((1 : Int32) - w))])) rfl rfl (hb hby d10_11)
  refine own_go st4 ?_
  clear st4 X3 e3
  refine own_go (fun _ k => XS.isub X4.here hx rfl (hb hby d10_14) rfl k) ?_
  show own_Go p e below s _ _ _ (T4.setTop (mkF m 15 #[rv a1] [(.int (((1 : Int32) - w) - k))]))
  refine own_retI X4 hx hlk e4 hret (hb hby d10_15) (by show _ ≤ 0; omega) (by show _ ≤ 0; omega) ?_
  exact ⟨rfl, N0, rfl⟩
def Q_lrx_2_0 (Z : State) (wd : Addr) (kd : ClassId) (a1 : Addr) (xs : Addr) (kx : ClassId) (x0 : Int32) (x1 : Int32) (h0 : Heap) (v : Option Value) (h : Heap) (L : List Loc) : Prop := (v = some (.int (0 : Int32)) ∧ Fr Z.heap.size L ∧ x0 < (0 : Int32) ∧ h = h0) ∨ (v = some (.int (1 : Int32)) ∧ Fr Z.heap.size L ∧ ¬ (x0 < (0 : Int32)) ∧ h = h0)
theorem ef_lrx_2_0 (m : MethodId) (x0 : Addr) : entryFrame m #[(.ref x0), (.int (0 : Int32))] 2 = mkF m 0 #[rv x0, iv (0 : Int32)] [] := by first | (simp [entryFrame, mkF, argsToLocals, Value.category]; done) | rfl
set_option maxRecDepth 65536 in
set_option maxHeartbeats 40000000 in
theorem rm_lrx_2_0 (l : Launch) (Z : State) (a0 : Array Value) (hw : ∀ d ∈ tables_1, d.before a0 Z = true) {wd : Addr} {kd : ClassId} (oDE : Sta Z Z.heap "java/util/ArrayList" "DEFAULTCAPACITY_EMPTY_ELEMENTDATA" "[Ljava/lang/Object;" (.ref wd)) (oDV : Arv Z Z.heap wd kd (.object "java/lang/Object") (0 : Int32) [] .null) (ws : List Jvm.Cond) (a1 : Addr) (xs : Addr) (kx : ClassId) (x0 : Int32) (x1 : Int32) (h0 : Heap) (O0 : Ext Z.heap h0) (fp0 : Fld Z h0 a1 "com/example/nudo/nudo/LoadingResult" "exitSteps" "[I" (.ref xs)) (fp1 : Arv Z h0 xs kx .int (2 : Int32) [(.int x0), (.int x1)] (.int (0 : Int32))) :
    own_MF l Z h0 (⟨"com/example/nudo/nudo/LoadingResult", "exited", "(I)Z"⟩ : MethodName) prog_30_method_6_code 2 (some .boolean) ({ frames := 0, cells := 0, slots := 0, locals := 0 } : Room) #[(.ref a1), (.int (0 : Int32))] (Q_lrx_2_0 Z wd kd a1 xs kx x0 x1 h0) ws := by
  refine own_met (Q := (Q_lrx_2_0 Z wd kd a1 xs kx x0 x1 h0)) _ _ (plainFor_of_name own_pn_7) ?_
  intro p e s m below meth c T X0 hx hby hml hret hlk hZ hown hnm e0
  replace hown : s.vm.findClass "com/example/nudo/nudo/LoadingResult" = some m.cls := hown
  replace hnm : meth.name = "exited" := hnm
  have hml : c.maxLocals = 2 := hml
  have N0 := Fr.nil Z.heap.size
  have K0 := Keep.refl h0 []
  refine own_go (fun _ k => castTop (ef_lrx_2_0 m a1) k) ?_
  show own_Go p e below s _ _ _ (T.setTop (mkF m 0 #[rv a1, iv (0 : Int32)] []))
  refine own_go (fun _ k => XS.aloadN X0.here hx rfl (hb hby d28_0) rfl rfl k) ?_
  obtain ⟨T1, X1, e1, st1⟩ := getF X0 hx hZ hown (host := "") (Or.inl (ow50 hw)) Via.refl e0 (fp0.keep K0 nin0) (g := (mkF m 1 #[rv a1, iv (0 : Int32)] [(.ref a1)])) rfl rfl (hb hby d28_1)
  refine own_go st1 ?_
  clear st1 X0 e0
  refine own_go (fun _ k => XS.iloadN X1.here hx rfl (hb hby d28_4) rfl k) ?_
  obtain ⟨cl2, Ar2, -, S2, -, P2, -⟩ := id (fp1.keep K0 nin0)
  have hin2 : ¬ ((0 : Int32) < 0 ∨ cl2.slots.size ≤ ((0 : Int32)).toNatClampNeg) := inb_of S2 ⟨by decide, by decide⟩
  refine own_go (X1.iaload hx (j := (0 : Int32)) (v := (.int x0)) (by rw [e1]; exact Ar2.1) (State.isArrayOf_alike hZ.alike Ar2.2.1) Ar2.2.2 hin2 (P2.at hin2 rfl) (g := (mkF m 5 #[rv a1, iv (0 : Int32)] [(.int (0 : Int32)), (.ref xs)])) rfl rfl (hb hby d28_5)) ?_
  by_cases hc3 : x0 < (0 : Int32)
  · refine own_go (fun _ k => XS.ifYes X1.here hx rfl (pc0 := 6) (pc' := 13) rfl (hb hby d28_6) rfl ((if0 _ _).trans (tlt hc3).1) (by decide) (by decide) k) ?_
    show own_Go p e below s _ _ _ (T1.setTop (mkF m 13 #[rv a1, iv (0 : Int32)] []))
    refine own_go (fun _ k => XS.iconst X1.here hx rfl (hb hby d28_13) k) ?_
    show own_Go p e below s _ _ _ (T1.setTop (mkF m 14 #[rv a1, iv (0 : Int32)] [(.int (0 : Int32))]))
    refine own_retN X1 hx hlk e1 (t := .boolean) hret (by simp) (hb hby d28_14) (by show _ ≤ 0; omega) (by show _ ≤ 0; omega) ?_
    exact Or.inl ⟨rfl, N0, hc3, rfl⟩
  · refine own_go (fun _ k => XS.ifNo X1.here hx rfl (hb hby d28_6) rfl ((if0 _ _).trans (flt hc3).1) k) ?_
    show own_Go p e below s _ _ _ (T1.setTop (mkF m 9 #[rv a1, iv (0 : Int32)] []))
    refine own_go (fun _ k => XS.iconst X1.here hx rfl (hb hby d28_9) k) ?_
    refine own_go (fun _ k => XS.goto X1.here hx rfl (pc0 := 10) (pc' := 14) rfl (hb hby d28_10) (by decide) (by decide) k) ?_
    show own_Go p e below s _ _ _ (T1.setTop (mkF m 14 #[rv a1, iv (0 : Int32)] [(.int (1 : Int32))]))
    refine own_retN X1 hx hlk e1 (t := .boolean) hret (by simp) (hb hby d28_14) (by show _ ≤ 0; omega) (by show _ ≤ 0; omega) ?_
    exact Or.inr (⟨rfl, N0, hc3, rfl⟩)
def Q_lrx_2_1 (Z : State) (wd : Addr) (kd : ClassId) (a1 : Addr) (xs : Addr) (kx : ClassId) (x0 : Int32) (x1 : Int32) (h0 : Heap) (v : Option Value) (h : Heap) (L : List Loc) : Prop := (v = some (.int (0 : Int32)) ∧ Fr Z.heap.size L ∧ x1 < (0 : Int32) ∧ h = h0) ∨ (v = some (.int (1 : Int32)) ∧ Fr Z.heap.size L ∧ ¬ (x1 < (0 : Int32)) ∧ h = h0)
theorem ef_lrx_2_1 (m : MethodId) (x0 : Addr) : entryFrame m #[(.ref x0), (.int (1 : Int32))] 2 = mkF m 0 #[rv x0, iv (1 : Int32)] [] := by first | (simp [entryFrame, mkF, argsToLocals, Value.category]; done) | rfl
set_option maxRecDepth 65536 in
set_option maxHeartbeats 40000000 in
theorem rm_lrx_2_1 (l : Launch) (Z : State) (a0 : Array Value) (hw : ∀ d ∈ tables_1, d.before a0 Z = true) {wd : Addr} {kd : ClassId} (oDE : Sta Z Z.heap "java/util/ArrayList" "DEFAULTCAPACITY_EMPTY_ELEMENTDATA" "[Ljava/lang/Object;" (.ref wd)) (oDV : Arv Z Z.heap wd kd (.object "java/lang/Object") (0 : Int32) [] .null) (ws : List Jvm.Cond) (a1 : Addr) (xs : Addr) (kx : ClassId) (x0 : Int32) (x1 : Int32) (h0 : Heap) (O0 : Ext Z.heap h0) (fp0 : Fld Z h0 a1 "com/example/nudo/nudo/LoadingResult" "exitSteps" "[I" (.ref xs)) (fp1 : Arv Z h0 xs kx .int (2 : Int32) [(.int x0), (.int x1)] (.int (0 : Int32))) :
    own_MF l Z h0 (⟨"com/example/nudo/nudo/LoadingResult", "exited", "(I)Z"⟩ : MethodName) prog_30_method_6_code 2 (some .boolean) ({ frames := 0, cells := 0, slots := 0, locals := 0 } : Room) #[(.ref a1), (.int (1 : Int32))] (Q_lrx_2_1 Z wd kd a1 xs kx x0 x1 h0) ws := by
  refine own_met (Q := (Q_lrx_2_1 Z wd kd a1 xs kx x0 x1 h0)) _ _ (plainFor_of_name own_pn_7) ?_
  intro p e s m below meth c T X0 hx hby hml hret hlk hZ hown hnm e0
  replace hown : s.vm.findClass "com/example/nudo/nudo/LoadingResult" = some m.cls := hown
  replace hnm : meth.name = "exited" := hnm
  have hml : c.maxLocals = 2 := hml
  have N0 := Fr.nil Z.heap.size
  have K0 := Keep.refl h0 []
  refine own_go (fun _ k => castTop (ef_lrx_2_1 m a1) k) ?_
  show own_Go p e below s _ _ _ (T.setTop (mkF m 0 #[rv a1, iv (1 : Int32)] []))
  refine own_go (fun _ k => XS.aloadN X0.here hx rfl (hb hby d28_0) rfl rfl k) ?_
  obtain ⟨T1, X1, e1, st1⟩ := getF X0 hx hZ hown (host := "") (Or.inl (ow50 hw)) Via.refl e0 (fp0.keep K0 nin0) (g := (mkF m 1 #[rv a1, iv (1 : Int32)] [(.ref a1)])) rfl rfl (hb hby d28_1)
  refine own_go st1 ?_
  clear st1 X0 e0
  refine own_go (fun _ k => XS.iloadN X1.here hx rfl (hb hby d28_4) rfl k) ?_
  obtain ⟨cl2, Ar2, -, S2, -, P2, -⟩ := id (fp1.keep K0 nin0)
  have hin2 : ¬ ((1 : Int32) < 0 ∨ cl2.slots.size ≤ ((1 : Int32)).toNatClampNeg) := inb_of S2 ⟨by decide, by decide⟩
  refine own_go (X1.iaload hx (j := (1 : Int32)) (v := (.int x1)) (by rw [e1]; exact Ar2.1) (State.isArrayOf_alike hZ.alike Ar2.2.1) Ar2.2.2 hin2 (P2.at hin2 rfl) (g := (mkF m 5 #[rv a1, iv (1 : Int32)] [(.int (1 : Int32)), (.ref xs)])) rfl rfl (hb hby d28_5)) ?_
  by_cases hc3 : x1 < (0 : Int32)
  · refine own_go (fun _ k => XS.ifYes X1.here hx rfl (pc0 := 6) (pc' := 13) rfl (hb hby d28_6) rfl ((if0 _ _).trans (tlt hc3).1) (by decide) (by decide) k) ?_
    show own_Go p e below s _ _ _ (T1.setTop (mkF m 13 #[rv a1, iv (1 : Int32)] []))
    refine own_go (fun _ k => XS.iconst X1.here hx rfl (hb hby d28_13) k) ?_
    show own_Go p e below s _ _ _ (T1.setTop (mkF m 14 #[rv a1, iv (1 : Int32)] [(.int (0 : Int32))]))
    refine own_retN X1 hx hlk e1 (t := .boolean) hret (by simp) (hb hby d28_14) (by show _ ≤ 0; omega) (by show _ ≤ 0; omega) ?_
    exact Or.inl ⟨rfl, N0, hc3, rfl⟩
  · refine own_go (fun _ k => XS.ifNo X1.here hx rfl (hb hby d28_6) rfl ((if0 _ _).trans (flt hc3).1) k) ?_
    show own_Go p e below s _ _ _ (T1.setTop (mkF m 9 #[rv a1, iv (1 : Int32)] []))
    refine own_go (fun _ k => XS.iconst X1.here hx rfl (hb hby d28_9) k) ?_
    refine own_go (fun _ k => XS.goto X1.here hx rfl (pc0 := 10) (pc' := 14) rfl (hb hby d28_10) (by decide) (by decide) k) ?_
    show own_Go p e below s _ _ _ (T1.setTop (mkF m 14 #[rv a1, iv (1 : Int32)] [(.int (1 : Int32))]))
    refine own_retN X1 hx hlk e1 (t := .boolean) hret (by simp) (hb hby d28_14) (by show _ ≤ 0; omega) (by show _ ≤ 0; omega) ?_
    exact Or.inr (⟨rfl, N0, hc3, rfl⟩)
def Q_lrv_2 (Z : State) (wd : Addr) (kd : ClassId) (a1 : Addr) (xs : Addr) (kx : ClassId) (x0 : Int32) (x1 : Int32) (w : Int32) (k : Int32) (h0 : Heap) (v : Option Value) (h : Heap) (L : List Loc) : Prop := (v = some (.int (((2 : Int32) - w) - k)) ∧ Fr Z.heap.size L ∧ h = h0)
theorem ef_lrv_2 (m : MethodId) (x0 : Addr) : entryFrame m #[(.ref x0)] 1 = mkF m 0 #[rv x0] [] := by first | (simp [entryFrame, mkF, argsToLocals, Value.category]; done) | rfl
set_option maxRecDepth 65536 in
set_option maxHeartbeats 40000000 in
theorem rm_lrv_2 (l : Launch) (Z : State) (a0 : Array Value) (hw : ∀ d ∈ tables_1, d.before a0 Z = true) {wd : Addr} {kd : ClassId} (oDE : Sta Z Z.heap "java/util/ArrayList" "DEFAULTCAPACITY_EMPTY_ELEMENTDATA" "[Ljava/lang/Object;" (.ref wd)) (oDV : Arv Z Z.heap wd kd (.object "java/lang/Object") (0 : Int32) [] .null) (ws : List Jvm.Cond) (a1 : Addr) (xs : Addr) (kx : ClassId) (x0 : Int32) (x1 : Int32) (w : Int32) (k : Int32) (h0 : Heap) (O0 : Ext Z.heap h0) (fp0 : Fld Z h0 a1 "com/example/nudo/nudo/LoadingResult" "exitSteps" "[I" (.ref xs)) (fp1 : Arv Z h0 xs kx .int (2 : Int32) [(.int x0), (.int x1)] (.int (0 : Int32))) (fp2 : Fld Z h0 a1 "com/example/nudo/nudo/LoadingResult" "vehiclesWaiting" "I" (.int w)) (fp3 : Fld Z h0 a1 "com/example/nudo/nudo/LoadingResult" "vehiclesInNetwork" "I" (.int k)) :
    own_MF l Z h0 (⟨"com/example/nudo/nudo/LoadingResult", "vehiclesExited", "()I"⟩ : MethodName) prog_30_method_3_code 1 (some .int) ({ frames := 0, cells := 0, slots := 0, locals := 0 } : Room) #[(.ref a1)] (Q_lrv_2 Z wd kd a1 xs kx x0 x1 w k h0) ws := by
  refine own_met (Q := (Q_lrv_2 Z wd kd a1 xs kx x0 x1 w k h0)) _ _ (plainFor_of_name own_pn_7) ?_
  intro p e s m below meth c T X0 hx hby hml hret hlk hZ hown hnm e0
  replace hown : s.vm.findClass "com/example/nudo/nudo/LoadingResult" = some m.cls := hown
  replace hnm : meth.name = "vehiclesExited" := hnm
  have hml : c.maxLocals = 1 := hml
  have N0 := Fr.nil Z.heap.size
  have K0 := Keep.refl h0 []
  refine own_go (fun _ k => castTop (ef_lrv_2 m a1) k) ?_
  show own_Go p e below s _ _ _ (T.setTop (mkF m 0 #[rv a1] []))
  refine own_go (fun _ k => XS.aloadN X0.here hx rfl (hb hby d10_0) rfl rfl k) ?_
  obtain ⟨T1, X1, e1, st1⟩ := getF X0 hx hZ hown (host := "") (Or.inl (ow50 hw)) Via.refl e0 (fp0.keep K0 nin0) (g := (mkF m 1 #[rv a1] [(.ref a1)])) rfl rfl (hb hby d10_1)
  refine own_go st1 ?_
  clear st1 X0 e0
  show own_Go p e below s _ _ _ (T1.setTop (mkF m 4 #[rv a1] [(.ref xs)]))
  obtain ⟨cl2, Ar2, -, S2, M2, -, -⟩ := id (fp1.keep K0 nin0)
  refine own_go (X1.arraylength hx (by rw [e1]; exact Ar2.1) (State.isArrayOf_alike hZ.alike Ar2.2.1) (g := (mkF m 4 #[rv a1] [(.ref xs)])) rfl rfl (hb hby d10_4)) ?_
  rw [len_of S2 M2]
  refine own_go (fun _ k => XS.aloadN X1.here hx rfl (hb hby d10_5) rfl rfl k) ?_
  obtain ⟨T3, X3, e3, st3⟩ := getF X1 hx hZ hown (host := "") (Or.inl (ow96 hw)) Via.refl e1 (fp2.keep K0 nin0) (g := (mkF m 6 #[rv a1] [(.ref a1), (.int (2 : Int32))])) rfl rfl (hb hby d10_6)
  refine own_go st3 ?_
  clear st3 X1 e1
  refine own_go (fun _ k => XS.isub X3.here hx rfl (hb hby d10_9) rfl k) ?_
  refine own_go (fun _ k => XS.aloadN X3.here hx rfl (hb hby d10_10) rfl rfl k) ?_
  obtain ⟨T4, X4, e4, st4⟩ := getF X3 hx hZ hown (host := "") (Or.inl (ow98 hw)) Via.refl e3 (fp3.keep K0 nin0) (g := (mkF m 11 #[rv a1] [(.ref a1), (.int ((2 : Int32) - w))])) rfl rfl (hb hby d10_11)
  refine own_go st4 ?_
  clear st4 X3 e3
  refine own_go (fun _ k => XS.isub X4.here hx rfl (hb hby d10_14) rfl k) ?_
  show own_Go p e below s _ _ _ (T4.setTop (mkF m 15 #[rv a1] [(.int (((2 : Int32) - w) - k))]))
  refine own_retI X4 hx hlk e4 hret (hb hby d10_15) (by show _ ≤ 0; omega) (by show _ ≤ 0; omega) ?_
  exact ⟨rfl, N0, rfl⟩
def Q_lrx_3_0 (Z : State) (wd : Addr) (kd : ClassId) (a1 : Addr) (xs : Addr) (kx : ClassId) (x0 : Int32) (x1 : Int32) (x2 : Int32) (h0 : Heap) (v : Option Value) (h : Heap) (L : List Loc) : Prop := (v = some (.int (0 : Int32)) ∧ Fr Z.heap.size L ∧ x0 < (0 : Int32) ∧ h = h0) ∨ (v = some (.int (1 : Int32)) ∧ Fr Z.heap.size L ∧ ¬ (x0 < (0 : Int32)) ∧ h = h0)
theorem ef_lrx_3_0 (m : MethodId) (x0 : Addr) : entryFrame m #[(.ref x0), (.int (0 : Int32))] 2 = mkF m 0 #[rv x0, iv (0 : Int32)] [] := by first | (simp [entryFrame, mkF, argsToLocals, Value.category]; done) | rfl
set_option maxRecDepth 65536 in
set_option maxHeartbeats 40000000 in
theorem rm_lrx_3_0 (l : Launch) (Z : State) (a0 : Array Value) (hw : ∀ d ∈ tables_1, d.before a0 Z = true) {wd : Addr} {kd : ClassId} (oDE : Sta Z Z.heap "java/util/ArrayList" "DEFAULTCAPACITY_EMPTY_ELEMENTDATA" "[Ljava/lang/Object;" (.ref wd)) (oDV : Arv Z Z.heap wd kd (.object "java/lang/Object") (0 : Int32) [] .null) (ws : List Jvm.Cond) (a1 : Addr) (xs : Addr) (kx : ClassId) (x0 : Int32) (x1 : Int32) (x2 : Int32) (h0 : Heap) (O0 : Ext Z.heap h0) (fp0 : Fld Z h0 a1 "com/example/nudo/nudo/LoadingResult" "exitSteps" "[I" (.ref xs)) (fp1 : Arv Z h0 xs kx .int (3 : Int32) [(.int x0), (.int x1), (.int x2)] (.int (0 : Int32))) :
    own_MF l Z h0 (⟨"com/example/nudo/nudo/LoadingResult", "exited", "(I)Z"⟩ : MethodName) prog_30_method_6_code 2 (some .boolean) ({ frames := 0, cells := 0, slots := 0, locals := 0 } : Room) #[(.ref a1), (.int (0 : Int32))] (Q_lrx_3_0 Z wd kd a1 xs kx x0 x1 x2 h0) ws := by
  refine own_met (Q := (Q_lrx_3_0 Z wd kd a1 xs kx x0 x1 x2 h0)) _ _ (plainFor_of_name own_pn_7) ?_
  intro p e s m below meth c T X0 hx hby hml hret hlk hZ hown hnm e0
  replace hown : s.vm.findClass "com/example/nudo/nudo/LoadingResult" = some m.cls := hown
  replace hnm : meth.name = "exited" := hnm
  have hml : c.maxLocals = 2 := hml
  have N0 := Fr.nil Z.heap.size
  have K0 := Keep.refl h0 []
  refine own_go (fun _ k => castTop (ef_lrx_3_0 m a1) k) ?_
  show own_Go p e below s _ _ _ (T.setTop (mkF m 0 #[rv a1, iv (0 : Int32)] []))
  refine own_go (fun _ k => XS.aloadN X0.here hx rfl (hb hby d28_0) rfl rfl k) ?_
  obtain ⟨T1, X1, e1, st1⟩ := getF X0 hx hZ hown (host := "") (Or.inl (ow50 hw)) Via.refl e0 (fp0.keep K0 nin0) (g := (mkF m 1 #[rv a1, iv (0 : Int32)] [(.ref a1)])) rfl rfl (hb hby d28_1)
  refine own_go st1 ?_
  clear st1 X0 e0
  refine own_go (fun _ k => XS.iloadN X1.here hx rfl (hb hby d28_4) rfl k) ?_
  obtain ⟨cl2, Ar2, -, S2, -, P2, -⟩ := id (fp1.keep K0 nin0)
  have hin2 : ¬ ((0 : Int32) < 0 ∨ cl2.slots.size ≤ ((0 : Int32)).toNatClampNeg) := inb_of S2 ⟨by decide, by decide⟩
  refine own_go (X1.iaload hx (j := (0 : Int32)) (v := (.int x0)) (by rw [e1]; exact Ar2.1) (State.isArrayOf_alike hZ.alike Ar2.2.1) Ar2.2.2 hin2 (P2.at hin2 rfl) (g := (mkF m 5 #[rv a1, iv (0 : Int32)] [(.int (0 : Int32)), (.ref xs)])) rfl rfl (hb hby d28_5)) ?_
  by_cases hc3 : x0 < (0 : Int32)
  · refine own_go (fun _ k => XS.ifYes X1.here hx rfl (pc0 := 6) (pc' := 13) rfl (hb hby d28_6) rfl ((if0 _ _).trans (tlt hc3).1) (by decide) (by decide) k) ?_
    show own_Go p e below s _ _ _ (T1.setTop (mkF m 13 #[rv a1, iv (0 : Int32)] []))
    refine own_go (fun _ k => XS.iconst X1.here hx rfl (hb hby d28_13) k) ?_
    show own_Go p e below s _ _ _ (T1.setTop (mkF m 14 #[rv a1, iv (0 : Int32)] [(.int (0 : Int32))]))
    refine own_retN X1 hx hlk e1 (t := .boolean) hret (by simp) (hb hby d28_14) (by show _ ≤ 0; omega) (by show _ ≤ 0; omega) ?_
    exact Or.inl ⟨rfl, N0, hc3, rfl⟩
  · refine own_go (fun _ k => XS.ifNo X1.here hx rfl (hb hby d28_6) rfl ((if0 _ _).trans (flt hc3).1) k) ?_
    show own_Go p e below s _ _ _ (T1.setTop (mkF m 9 #[rv a1, iv (0 : Int32)] []))
    refine own_go (fun _ k => XS.iconst X1.here hx rfl (hb hby d28_9) k) ?_
    refine own_go (fun _ k => XS.goto X1.here hx rfl (pc0 := 10) (pc' := 14) rfl (hb hby d28_10) (by decide) (by decide) k) ?_
    show own_Go p e below s _ _ _ (T1.setTop (mkF m 14 #[rv a1, iv (0 : Int32)] [(.int (1 : Int32))]))
    refine own_retN X1 hx hlk e1 (t := .boolean) hret (by simp) (hb hby d28_14) (by show _ ≤ 0; omega) (by show _ ≤ 0; omega) ?_
    exact Or.inr (⟨rfl, N0, hc3, rfl⟩)
def Q_lrx_3_1 (Z : State) (wd : Addr) (kd : ClassId) (a1 : Addr) (xs : Addr) (kx : ClassId) (x0 : Int32) (x1 : Int32) (x2 : Int32) (h0 : Heap) (v : Option Value) (h : Heap) (L : List Loc) : Prop := (v = some (.int (0 : Int32)) ∧ Fr Z.heap.size L ∧ x1 < (0 : Int32) ∧ h = h0) ∨ (v = some (.int (1 : Int32)) ∧ Fr Z.heap.size L ∧ ¬ (x1 < (0 : Int32)) ∧ h = h0)
theorem ef_lrx_3_1 (m : MethodId) (x0 : Addr) : entryFrame m #[(.ref x0), (.int (1 : Int32))] 2 = mkF m 0 #[rv x0, iv (1 : Int32)] [] := by first | (simp [entryFrame, mkF, argsToLocals, Value.category]; done) | rfl
set_option maxRecDepth 65536 in
set_option maxHeartbeats 40000000 in
theorem rm_lrx_3_1 (l : Launch) (Z : State) (a0 : Array Value) (hw : ∀ d ∈ tables_1, d.before a0 Z = true) {wd : Addr} {kd : ClassId} (oDE : Sta Z Z.heap "java/util/ArrayList" "DEFAULTCAPACITY_EMPTY_ELEMENTDATA" "[Ljava/lang/Object;" (.ref wd)) (oDV : Arv Z Z.heap wd kd (.object "java/lang/Object") (0 : Int32) [] .null) (ws : List Jvm.Cond) (a1 : Addr) (xs : Addr) (kx : ClassId) (x0 : Int32) (x1 : Int32) (x2 : Int32) (h0 : Heap) (O0 : Ext Z.heap h0) (fp0 : Fld Z h0 a1 "com/example/nudo/nudo/LoadingResult" "exitSteps" "[I" (.ref xs)) (fp1 : Arv Z h0 xs kx .int (3 : Int32) [(.int x0), (.int x1), (.int x2)] (.int (0 : Int32))) :
    own_MF l Z h0 (⟨"com/example/nudo/nudo/LoadingResult", "exited", "(I)Z"⟩ : MethodName) prog_30_method_6_code 2 (some .boolean) ({ frames := 0, cells := 0, slots := 0, locals := 0 } : Room) #[(.ref a1), (.int (1 : Int32))] (Q_lrx_3_1 Z wd kd a1 xs kx x0 x1 x2 h0) ws := by
  refine own_met (Q := (Q_lrx_3_1 Z wd kd a1 xs kx x0 x1 x2 h0)) _ _ (plainFor_of_name own_pn_7) ?_
  intro p e s m below meth c T X0 hx hby hml hret hlk hZ hown hnm e0
  replace hown : s.vm.findClass "com/example/nudo/nudo/LoadingResult" = some m.cls := hown
  replace hnm : meth.name = "exited" := hnm
  have hml : c.maxLocals = 2 := hml
  have N0 := Fr.nil Z.heap.size
  have K0 := Keep.refl h0 []
  refine own_go (fun _ k => castTop (ef_lrx_3_1 m a1) k) ?_
  show own_Go p e below s _ _ _ (T.setTop (mkF m 0 #[rv a1, iv (1 : Int32)] []))
  refine own_go (fun _ k => XS.aloadN X0.here hx rfl (hb hby d28_0) rfl rfl k) ?_
  obtain ⟨T1, X1, e1, st1⟩ := getF X0 hx hZ hown (host := "") (Or.inl (ow50 hw)) Via.refl e0 (fp0.keep K0 nin0) (g := (mkF m 1 #[rv a1, iv (1 : Int32)] [(.ref a1)])) rfl rfl (hb hby d28_1)
  refine own_go st1 ?_
  clear st1 X0 e0
  refine own_go (fun _ k => XS.iloadN X1.here hx rfl (hb hby d28_4) rfl k) ?_
  obtain ⟨cl2, Ar2, -, S2, -, P2, -⟩ := id (fp1.keep K0 nin0)
  have hin2 : ¬ ((1 : Int32) < 0 ∨ cl2.slots.size ≤ ((1 : Int32)).toNatClampNeg) := inb_of S2 ⟨by decide, by decide⟩
  refine own_go (X1.iaload hx (j := (1 : Int32)) (v := (.int x1)) (by rw [e1]; exact Ar2.1) (State.isArrayOf_alike hZ.alike Ar2.2.1) Ar2.2.2 hin2 (P2.at hin2 rfl) (g := (mkF m 5 #[rv a1, iv (1 : Int32)] [(.int (1 : Int32)), (.ref xs)])) rfl rfl (hb hby d28_5)) ?_
  by_cases hc3 : x1 < (0 : Int32)
  · refine own_go (fun _ k => XS.ifYes X1.here hx rfl (pc0 := 6) (pc' := 13) rfl (hb hby d28_6) rfl ((if0 _ _).trans (tlt hc3).1) (by decide) (by decide) k) ?_
    show own_Go p e below s _ _ _ (T1.setTop (mkF m 13 #[rv a1, iv (1 : Int32)] []))
    refine own_go (fun _ k => XS.iconst X1.here hx rfl (hb hby d28_13) k) ?_
    show own_Go p e below s _ _ _ (T1.setTop (mkF m 14 #[rv a1, iv (1 : Int32)] [(.int (0 : Int32))]))
    refine own_retN X1 hx hlk e1 (t := .boolean) hret (by simp) (hb hby d28_14) (by show _ ≤ 0; omega) (by show _ ≤ 0; omega) ?_
    exact Or.inl ⟨rfl, N0, hc3, rfl⟩
  · refine own_go (fun _ k => XS.ifNo X1.here hx rfl (hb hby d28_6) rfl ((if0 _ _).trans (flt hc3).1) k) ?_
    show own_Go p e below s _ _ _ (T1.setTop (mkF m 9 #[rv a1, iv (1 : Int32)] []))
    refine own_go (fun _ k => XS.iconst X1.here hx rfl (hb hby d28_9) k) ?_
    refine own_go (fun _ k => XS.goto X1.here hx rfl (pc0 := 10) (pc' := 14) rfl (hb hby d28_10) (by decide) (by decide) k) ?_
    show own_Go p e below s _ _ _ (T1.setTop (mkF m 14 #[rv a1, iv (1 : Int32)] [(.int (1 : Int32))]))
    refine own_retN X1 hx hlk e1 (t := .boolean) hret (by simp) (hb hby d28_14) (by show _ ≤ 0; omega) (by show _ ≤ 0; omega) ?_
    exact Or.inr (⟨rfl, N0, hc3, rfl⟩)
def Q_lrx_3_2 (Z : State) (wd : Addr) (kd : ClassId) (a1 : Addr) (xs : Addr) (kx : ClassId) (x0 : Int32) (x1 : Int32) (x2 : Int32) (h0 : Heap) (v : Option Value) (h : Heap) (L : List Loc) : Prop := (v = some (.int (0 : Int32)) ∧ Fr Z.heap.size L ∧ x2 < (0 : Int32) ∧ h = h0) ∨ (v = some (.int (1 : Int32)) ∧ Fr Z.heap.size L ∧ ¬ (x2 < (0 : Int32)) ∧ h = h0)
theorem ef_lrx_3_2 (m : MethodId) (x0 : Addr) : entryFrame m #[(.ref x0), (.int (2 : Int32))] 2 = mkF m 0 #[rv x0, iv (2 : Int32)] [] := by first | (simp [entryFrame, mkF, argsToLocals, Value.category]; done) | rfl
set_option maxRecDepth 65536 in
set_option maxHeartbeats 40000000 in
theorem rm_lrx_3_2 (l : Launch) (Z : State) (a0 : Array Value) (hw : ∀ d ∈ tables_1, d.before a0 Z = true) {wd : Addr} {kd : ClassId} (oDE : Sta Z Z.heap "java/util/ArrayList" "DEFAULTCAPACITY_EMPTY_ELEMENTDATA" "[Ljava/lang/Object;" (.ref wd)) (oDV : Arv Z Z.heap wd kd (.object "java/lang/Object") (0 : Int32) [] .null) (ws : List Jvm.Cond) (a1 : Addr) (xs : Addr) (kx : ClassId) (x0 : Int32) (x1 : Int32) (x2 : Int32) (h0 : Heap) (O0 : Ext Z.heap h0) (fp0 : Fld Z h0 a1 "com/example/nudo/nudo/LoadingResult" "exitSteps" "[I" (.ref xs)) (fp1 : Arv Z h0 xs kx .int (3 : Int32) [(.int x0), (.int x1), (.int x2)] (.int (0 : Int32))) :
    own_MF l Z h0 (⟨"com/example/nudo/nudo/LoadingResult", "exited", "(I)Z"⟩ : MethodName) prog_30_method_6_code 2 (some .boolean) ({ frames := 0, cells := 0, slots := 0, locals := 0 } : Room) #[(.ref a1), (.int (2 : Int32))] (Q_lrx_3_2 Z wd kd a1 xs kx x0 x1 x2 h0) ws := by
  refine own_met (Q := (Q_lrx_3_2 Z wd kd a1 xs kx x0 x1 x2 h0)) _ _ (plainFor_of_name own_pn_7) ?_
  intro p e s m below meth c T X0 hx hby hml hret hlk hZ hown hnm e0
  replace hown : s.vm.findClass "com/example/nudo/nudo/LoadingResult" = some m.cls := hown
  replace hnm : meth.name = "exited" := hnm
  have hml : c.maxLocals = 2 := hml
  have N0 := Fr.nil Z.heap.size
  have K0 := Keep.refl h0 []
  refine own_go (fun _ k => castTop (ef_lrx_3_2 m a1) k) ?_
  show own_Go p e below s _ _ _ (T.setTop (mkF m 0 #[rv a1, iv (2 : Int32)] []))
  refine own_go (fun _ k => XS.aloadN X0.here hx rfl (hb hby d28_0) rfl rfl k) ?_
  obtain ⟨T1, X1, e1, st1⟩ := getF X0 hx hZ hown (host := "") (Or.inl (ow50 hw)) Via.refl e0 (fp0.keep K0 nin0) (g := (mkF m 1 #[rv a1, iv (2 : Int32)] [(.ref a1)])) rfl rfl (hb hby d28_1)
  refine own_go st1 ?_
  clear st1 X0 e0
  refine own_go (fun _ k => XS.iloadN X1.here hx rfl (hb hby d28_4) rfl k) ?_
  obtain ⟨cl2, Ar2, -, S2, -, P2, -⟩ := id (fp1.keep K0 nin0)
  have hin2 : ¬ ((2 : Int32) < 0 ∨ cl2.slots.size ≤ ((2 : Int32)).toNatClampNeg) := inb_of S2 ⟨by decide, by decide⟩
  refine own_go (X1.iaload hx (j := (2 : Int32)) (v := (.int x2)) (by rw [e1]; exact Ar2.1) (State.isArrayOf_alike hZ.alike Ar2.2.1) Ar2.2.2 hin2 (P2.at hin2 rfl) (g := (mkF m 5 #[rv a1, iv (2 : Int32)] [(.int (2 : Int32)), (.ref xs)])) rfl rfl (hb hby d28_5)) ?_
  by_cases hc3 : x2 < (0 : Int32)
  · refine own_go (fun _ k => XS.ifYes X1.here hx rfl (pc0 := 6) (pc' := 13) rfl (hb hby d28_6) rfl ((if0 _ _).trans (tlt hc3).1) (by decide) (by decide) k) ?_
    show own_Go p e below s _ _ _ (T1.setTop (mkF m 13 #[rv a1, iv (2 : Int32)] []))
    refine own_go (fun _ k => XS.iconst X1.here hx rfl (hb hby d28_13) k) ?_
    show own_Go p e below s _ _ _ (T1.setTop (mkF m 14 #[rv a1, iv (2 : Int32)] [(.int (0 : Int32))]))
    refine own_retN X1 hx hlk e1 (t := .boolean) hret (by simp) (hb hby d28_14) (by show _ ≤ 0; omega) (by show _ ≤ 0; omega) ?_
    exact Or.inl ⟨rfl, N0, hc3, rfl⟩
  · refine own_go (fun _ k => XS.ifNo X1.here hx rfl (hb hby d28_6) rfl ((if0 _ _).trans (flt hc3).1) k) ?_
    show own_Go p e below s _ _ _ (T1.setTop (mkF m 9 #[rv a1, iv (2 : Int32)] []))
    refine own_go (fun _ k => XS.iconst X1.here hx rfl (hb hby d28_9) k) ?_
    refine own_go (fun _ k => XS.goto X1.here hx rfl (pc0 := 10) (pc' := 14) rfl (hb hby d28_10) (by decide) (by decide) k) ?_
    show own_Go p e below s _ _ _ (T1.setTop (mkF m 14 #[rv a1, iv (2 : Int32)] [(.int (1 : Int32))]))
    refine own_retN X1 hx hlk e1 (t := .boolean) hret (by simp) (hb hby d28_14) (by show _ ≤ 0; omega) (by show _ ≤ 0; omega) ?_
    exact Or.inr (⟨rfl, N0, hc3, rfl⟩)
def Q_lrv_3 (Z : State) (wd : Addr) (kd : ClassId) (a1 : Addr) (xs : Addr) (kx : ClassId) (x0 : Int32) (x1 : Int32) (x2 : Int32) (w : Int32) (k : Int32) (h0 : Heap) (v : Option Value) (h : Heap) (L : List Loc) : Prop := (v = some (.int (((3 : Int32) - w) - k)) ∧ Fr Z.heap.size L ∧ h = h0)
theorem ef_lrv_3 (m : MethodId) (x0 : Addr) : entryFrame m #[(.ref x0)] 1 = mkF m 0 #[rv x0] [] := by first | (simp [entryFrame, mkF, argsToLocals, Value.category]; done) | rfl
set_option maxRecDepth 65536 in
set_option maxHeartbeats 40000000 in
theorem rm_lrv_3 (l : Launch) (Z : State) (a0 : Array Value) (hw : ∀ d ∈ tables_1, d.before a0 Z = true) {wd : Addr} {kd : ClassId} (oDE : Sta Z Z.heap "java/util/ArrayList" "DEFAULTCAPACITY_EMPTY_ELEMENTDATA" "[Ljava/lang/Object;" (.ref wd)) (oDV : Arv Z Z.heap wd kd (.object "java/lang/Object") (0 : Int32) [] .null) (ws : List Jvm.Cond) (a1 : Addr) (xs : Addr) (kx : ClassId) (x0 : Int32) (x1 : Int32) (x2 : Int32) (w : Int32) (k : Int32) (h0 : Heap) (O0 : Ext Z.heap h0) (fp0 : Fld Z h0 a1 "com/example/nudo/nudo/LoadingResult" "exitSteps" "[I" (.ref xs)) (fp1 : Arv Z h0 xs kx .int (3 : Int32) [(.int x0), (.int x1), (.int x2)] (.int (0 : Int32))) (fp2 : Fld Z h0 a1 "com/example/nudo/nudo/LoadingResult" "vehiclesWaiting" "I" (.int w)) (fp3 : Fld Z h0 a1 "com/example/nudo/nudo/LoadingResult" "vehiclesInNetwork" "I" (.int k)) :
    own_MF l Z h0 (⟨"com/example/nudo/nudo/LoadingResult", "vehiclesExited", "()I"⟩ : MethodName) prog_30_method_3_code 1 (some .int) ({ frames := 0, cells := 0, slots := 0, locals := 0 } : Room) #[(.ref a1)] (Q_lrv_3 Z wd kd a1 xs kx x0 x1 x2 w k h0) ws := by
  refine own_met (Q := (Q_lrv_3 Z wd kd a1 xs kx x0 x1 x2 w k h0)) _ _ (plainFor_of_name own_pn_7) ?_
  intro p e s m below meth c T X0 hx hby hml hret hlk hZ hown hnm e0
  replace hown : s.vm.findClass "com/example/nudo/nudo/LoadingResult" = some m.cls := hown
  replace hnm : meth.name = "vehiclesExited" := hnm
  have hml : c.maxLocals = 1 := hml
  have N0 := Fr.nil Z.heap.size
  have K0 := Keep.refl h0 []
  refine own_go (fun _ k => castTop (ef_lrv_3 m a1) k) ?_
  show own_Go p e below s _ _ _ (T.setTop (mkF m 0 #[rv a1] []))
  refine own_go (fun _ k => XS.aloadN X0.here hx rfl (hb hby d10_0) rfl rfl k) ?_
  obtain ⟨T1, X1, e1, st1⟩ := getF X0 hx hZ hown (host := "") (Or.inl (ow50 hw)) Via.refl e0 (fp0.keep K0 nin0) (g := (mkF m 1 #[rv a1] [(.ref a1)])) rfl rfl (hb hby d10_1)
  refine own_go st1 ?_
  clear st1 X0 e0
  show own_Go p e below s _ _ _ (T1.setTop (mkF m 4 #[rv a1] [(.ref xs)]))
  obtain ⟨cl2, Ar2, -, S2, M2, -, -⟩ := id (fp1.keep K0 nin0)
  refine own_go (X1.arraylength hx (by rw [e1]; exact Ar2.1) (State.isArrayOf_alike hZ.alike Ar2.2.1) (g := (mkF m 4 #[rv a1] [(.ref xs)])) rfl rfl (hb hby d10_4)) ?_
  rw [len_of S2 M2]
  refine own_go (fun _ k => XS.aloadN X1.here hx rfl (hb hby d10_5) rfl rfl k) ?_
  obtain ⟨T3, X3, e3, st3⟩ := getF X1 hx hZ hown (host := "") (Or.inl (ow96 hw)) Via.refl e1 (fp2.keep K0 nin0) (g := (mkF m 6 #[rv a1] [(.ref a1), (.int (3 : Int32))])) rfl rfl (hb hby d10_6)
  refine own_go st3 ?_
  clear st3 X1 e1
  refine own_go (fun _ k => XS.isub X3.here hx rfl (hb hby d10_9) rfl k) ?_
  refine own_go (fun _ k => XS.aloadN X3.here hx rfl (hb hby d10_10) rfl rfl k) ?_
  obtain ⟨T4, X4, e4, st4⟩ := getF X3 hx hZ hown (host := "") (Or.inl (ow98 hw)) Via.refl e3 (fp3.keep K0 nin0) (g := (mkF m 11 #[rv a1] [(.ref a1), (.int ((3 : Int32) - w))])) rfl rfl (hb hby d10_11)
  refine own_go st4 ?_
  clear st4 X3 e3
  refine own_go (fun _ k => XS.isub X4.here hx rfl (hb hby d10_14) rfl k) ?_
  show own_Go p e below s _ _ _ (T4.setTop (mkF m 15 #[rv a1] [(.int (((3 : Int32) - w) - k))]))
  refine own_retI X4 hx hlk e4 hret (hb hby d10_15) (by show _ ≤ 0; omega) (by show _ ≤ 0; omega) ?_
  exact ⟨rfl, N0, rfl⟩
def Q_law (Z : State) (wd : Addr) (kd : ClassId) (p1 : Int32) (p2 : Int32) (p3 : Int32) (p4 : Int32) (p5 : Int32) (p6 : Int32) (h0 : Heap) (v : Option Value) (h : Heap) (L : List Loc) : Prop := (v = some (.int (1 : Int32)) ∧ Fr Z.heap.size L ∧ Keep h0 h [])
set_option maxRecDepth 65536 in
set_option maxHeartbeats 40000000 in
theorem sg_s293_0 {l : Launch} {Z : State} {a0 : Array Value} (hw : ∀ d ∈ tables_1, d.before a0 Z = true) {wd : Addr} {kd : ClassId} (oDE : Sta Z Z.heap "java/util/ArrayList" "DEFAULTCAPACITY_EMPTY_ELEMENTDATA" "[Ljava/lang/Object;" (.ref wd)) (oDV : Arv Z Z.heap wd kd (.object "java/lang/Object") (0 : Int32) [] .null) {p : Program} {e : Env} {s : State} {m : MethodId} {args : Array Value} {below : List Frame} {meth : Method} {c : Code} {T : State} {locs : List Loc} {cells slots : Nat} (p1 : Int32) (p2 : Int32) (p3 : Int32) (p4 : Int32) (p5 : Int32) (p6 : Int32) (nn : Int32) (sv0 : Int32) (sv1 : Int32) (sv2 : Int32) (sp : Int32) (ls : Addr) (c12 : Int32) (c13 : Int32) (c14 : Int32) (mc : Int32) (h0 hs1 : Heap)
    (X0 : Stand p l e room_1 s m args below meth c T locs cells slots) (hx : p.tables.exec = Jvm.exec) (hby : c.code = code) (hml : c.maxLocals = 18) (hret : meth.sig.returnType = some .boolean) (hlk : meth.locks = false) (hZ : Z.Warmed39 s.vm) (hown : s.vm.findClass "com/example/nudo/nudo/LoadingResultVehiclesExitedPinLaw" = some m.cls) (hnm : meth.name = "law") (e0 : T.heap = hs1) (N0 : Fr Z.heap.size locs) (O0 : Ext Z.heap hs1) (K0 : Keep h0 hs1 []) (fp0 : Exa Z hs1 ls "java/util/ArrayList") (fp1 : Fld Z hs1 ls "java/util/ArrayList" "size" "I" (.int (0 : Int32))) (fp2 : Fld Z hs1 ls "java/util/ArrayList" "elementData" "[Ljava/lang/Object;" (.ref wd)) (fp3 : Fld Z hs1 ls "java/util/AbstractList" "modCount" "I" (.int mc)) (big_ls : Z.heap.size ≤ ls) (sz_ls : h0.size ≤ ls) (hm0 : ¬ ((0 : Int32) < nn)) (hm1 : ¬ ((1 : Int32) < nn)) (hm2 : ¬ ((2 : Int32) < nn)) (hR : own_R [] c12 c13 c14) (hcells : cells ≤ 1) (hslots : slots ≤ 3) :
    own_Go p e below s (Q_law Z wd kd p1 p2 p3 p4 p5 p6 h0) room_1.cells room_1.slots (T.setTop (mkF m 293 #[iv p1, iv p2, iv p3, iv p4, iv p5, iv p6, iv nn, iv sv0, iv sv1, iv sv2, iv sp, rv ls, iv c12, iv c13, iv c14, .unset, .unset, .unset] [])) := by
  have K1 := Keep.refl hs1 [ls]
  show own_Go p e below s _ _ _ (T.setTop (mkF m 293 #[iv p1, iv p2, iv p3, iv p4, iv p5, iv p6, iv nn, iv sv0, iv sv1, iv sv2, iv sp, rv ls, iv c12, iv c13, iv c14, .unset, .unset, .unset] []))
  obtain ⟨T1, h1, X1, e1, E1, A1, D1, -, st1⟩ := newO X0 hx hZ hown (ow27 hw) (ow28 hw) (ow29 hw) e0 (g := (mkF m 293 #[iv p1, iv p2, iv p3, iv p4, iv p5, iv p6, iv nn, iv sv0, iv sv1, iv sv2, iv sp, rv ls, iv c12, iv c13, iv c14, .unset, .unset, .unset] [])) rfl (hb hby at_293) (by show _ ≤ 48; omega) (by show _ ≤ 256; omega)
  obtain ⟨b1, g1⟩ : ∃ z, z = hs1.size := ⟨_, rfl⟩
  rw [← g1] at A1 D1 st1
  refine own_go st1 ?_
  clear st1 X0 e0
  have ge1 := Nat.le_of_eq g1.symm
  have ne2 : ls ≠ b1 := Nat.ne_of_lt (Nat.lt_of_lt_of_le fp0.lt ge1)
  have big3 : Z.heap.size ≤ b1 := Nat.le_trans O0.1 ge1
  have sz4 : h0.size ≤ b1 := Nat.le_trans K0.1 ge1
  have sz5 : hs1.size ≤ b1 := Nat.le_trans K1.1 ge1
  replace fp0 := fp0.ext E1
  replace fp1 := fp1.ext E1
  replace fp2 := fp2.ext E1
  replace fp3 := fp3.ext E1
  replace O0 := own_oldExt O0 E1
  replace K0 := K0.ext E1
  replace K1 := K1.ext E1
  clear E1
  have f6 : Fld Z h1 b1 "com/example/nudo/nudo/LoadingResult" "timeStep" "I" (.int (0 : Int32)) := D1 (Or.inr (ow35 hw)) (ty := .int) own_fd0
  have f7 : Fld Z h1 b1 "com/example/nudo/nudo/LoadingResult" "departureSteps" "[I" .null := D1 (Or.inr (ow49 hw)) (ty := (.array .int)) own_fd4
  have f8 : Fld Z h1 b1 "com/example/nudo/nudo/LoadingResult" "exitSteps" "[I" .null := D1 (Or.inr (ow51 hw)) (ty := (.array .int)) own_fd4
  have f9 : Fld Z h1 b1 "com/example/nudo/nudo/LoadingResult" "freeFlowSteps" "[I" .null := D1 (Or.inr (ow53 hw)) (ty := (.array .int)) own_fd4
  have f10 : Fld Z h1 b1 "com/example/nudo/nudo/LoadingResult" "linkEntrySteps" "[[I" .null := D1 (Or.inr (ow57 hw)) (ty := (.array (.array .int))) own_fd6
  have f11 : Fld Z h1 b1 "com/example/nudo/nudo/LoadingResult" "endStep" "I" (.int (0 : Int32)) := D1 (Or.inr (ow95 hw)) (ty := .int) own_fd0
  have f12 : Fld Z h1 b1 "com/example/nudo/nudo/LoadingResult" "vehiclesWaiting" "I" (.int (0 : Int32)) := D1 (Or.inr (ow97 hw)) (ty := .int) own_fd0
  have f13 : Fld Z h1 b1 "com/example/nudo/nudo/LoadingResult" "vehiclesInNetwork" "I" (.int (0 : Int32)) := D1 (Or.inr (ow99 hw)) (ty := .int) own_fd0
  refine own_go (fun _ k => XS.dup X1.here hx rfl (hb hby at_296) rfl rfl k) ?_
  refine own_go (fun _ k => XS.iload X1.here hx rfl (hb hby at_297) rfl k) ?_
  refine own_go (fun _ k => XS.aload X1.here hx rfl (hb hby at_299) rfl rfl k) ?_
  refine own_go (fun _ k => XS.iload X1.here hx rfl (hb hby at_301) rfl k) ?_
  refine own_go (fun _ k => XS.iload X1.here hx rfl (hb hby at_303) rfl k) ?_
  refine own_go (fun _ k => XS.iload X1.here hx rfl (hb hby at_305) rfl k) ?_
  show own_Go p e below s _ _ _ (T1.setTop (mkF m 307 #[iv p1, iv p2, iv p3, iv p4, iv p5, iv p6, iv nn, iv sv0, iv sv1, iv sv2, iv sp, rv ls, iv c12, iv c13, iv c14, .unset, .unset, .unset] [(.int p6), (.int c14), (.int c13), (.ref ls), (.int p5), (.ref b1), (.ref b1)]))
  obtain ⟨v14, T14, L14, X14, hQ14, st14⟩ := own_callI (y := (⟨"com/example/nudo/nudo/LoadingResult", "<init>", "(ILjava/util/List;III)V"⟩ : MethodName)) X1 hx hZ hown (ow30 hw) (ow31 hw) (ow29 hw) (ow32 hw) (rm_lrinit0 l Z a0 hw oDE oDV [] b1 p5 ls c13 c14 p6 mc h1 O0 A1 f6 f7 f8 f9 f10 f11 f12 f13 fp0 fp1 fp2 fp3 big3) 1 5 4 rfl (by show _ ≤ 48; omega) (by show _ ≤ 256; omega) e1 (g := (mkF m 307 #[iv p1, iv p2, iv p3, iv p4, iv p5, iv p6, iv nn, iv sv0, iv sv1, iv sv2, iv sp, rv ls, iv c12, iv c13, iv c14, .unset, .unset, .unset] [(.int p6), (.int c14), (.int c13), (.ref ls), (.int p5), (.ref b1), (.ref b1)])) rfl (by rw [hml]; rfl) b1 [(.int p5), (.ref ls), (.int c13), (.int c14), (.int p6)] [(.ref b1)] (lenOf own_pd_13 rfl) rfl rfl (hb hby at_307)
  obtain ⟨w15, w16, rfl, Nc23, Kc22, f17, f18, f19, f20, f21⟩ := hQ14
  refine own_go st14 ?_
  clear st14 X1 e1
  replace N0 := Fr.app N0 Nc23
  clear Nc23
  replace fp0 := fp0.keep Kc22
  replace fp1 := fp1.keep Kc22 (ninS ne2 nin0)
  replace fp2 := fp2.keep Kc22 (ninS ne2 nin0)
  replace fp3 := fp3.keep Kc22 (ninS ne2 nin0)
  replace A1 := A1.keep Kc22
  clear f6
  clear f7
  clear f8
  clear f9
  clear f10
  clear f11
  clear f12
  clear f13
  replace O0 := own_oldKeep O0 Kc22 (allS big3 all0)
  replace K0 := K0.trans Kc22 (allS (Or.inr sz4) all0)
  replace K1 := K1.trans Kc22 (allS (Or.inr sz5) all0)
  clear Kc22
  refine own_go (fun _ k => XS.astore X14.here hx rfl (hb hby at_310) rfl rfl (l' := #[iv p1, iv p2, iv p3, iv p4, iv p5, iv p6, iv nn, iv sv0, iv sv1, iv sv2, iv sp, rv ls, iv c12, iv c13, iv c14, rv b1, .unset, .unset]) rfl k) ?_
  refine own_go (fun _ k => XS.aload X14.here hx rfl (hb hby at_312) rfl rfl k) ?_
  obtain ⟨v24, T24, L24, X24, hQ24, st24⟩ := own_callV (y := (⟨"com/example/nudo/nudo/LoadingResult", "vehiclesExited", "()I"⟩ : MethodName)) (z := (⟨"com/example/nudo/nudo/LoadingResult", "vehiclesExited", "()I"⟩ : MethodName)) X14 hx hZ hown (ow100 hw) (ow101 hw) (notFace_of_selects (args := #[]) (mvT hZ (ow103 hw))) (ow103 hw) (ow102 hw) (ow29 hw) (ow104 hw) (rm_lrv_0 l Z a0 hw oDE oDV [] b1 w15 w16 c13 c14 T14.heap O0 f18 f21 f19 f20) 0 0 0 (by show _ ≤ 48; omega) (by show _ ≤ 256; omega) (rfl : T14.heap = T14.heap) f17 (g := (mkF m 314 #[iv p1, iv p2, iv p3, iv p4, iv p5, iv p6, iv nn, iv sv0, iv sv1, iv sv2, iv sp, rv ls, iv c12, iv c13, iv c14, rv b1, .unset, .unset] [(.ref b1)])) rfl (by rw [hml]; rfl) [] [] (lenOf own_pd_9 rfl) rfl rfl (hb hby at_314)
  obtain ⟨rfl, Nc26, Kc25⟩ := hQ24
  refine own_go st24 ?_
  clear st24 X14
  replace N0 := Fr.app N0 Nc26
  clear Nc26
  refine own_go (fun _ k => XS.istore X24.here hx rfl (hb hby at_317) rfl (l' := #[iv p1, iv p2, iv p3, iv p4, iv p5, iv p6, iv nn, iv sv0, iv sv1, iv sv2, iv sp, rv ls, iv c12, iv c13, iv c14, rv b1, iv (((0 : Int32) - c13) - c14), .unset]) rfl k) ?_
  refine own_go (fun _ k => XS.iconst X24.here hx rfl (hb hby at_319) k) ?_
  refine own_go (fun _ k => XS.istore X24.here hx rfl (hb hby at_320) rfl (l' := #[iv p1, iv p2, iv p3, iv p4, iv p5, iv p6, iv nn, iv sv0, iv sv1, iv sv2, iv sp, rv ls, iv c12, iv c13, iv c14, rv b1, iv (((0 : Int32) - c13) - c14), iv (0 : Int32)]) rfl k) ?_
  show own_Go p e below s _ _ _ (T24.setTop (mkF m 322 #[iv p1, iv p2, iv p3, iv p4, iv p5, iv p6, iv nn, iv sv0, iv sv1, iv sv2, iv sp, rv ls, iv c12, iv c13, iv c14, rv b1, iv (((0 : Int32) - c13) - c14), iv (0 : Int32)] []))
  refine own_go (fun _ k => XS.iload X24.here hx rfl (hb hby at_322) rfl k) ?_
  refine own_go (fun _ k => XS.ifYes X24.here hx rfl (pc0 := 324) (pc' := 339) rfl (hb hby at_324) rfl ((if0 _ _).trans (flt hm0).2.2.2) (by decide) (by decide) k) ?_
  refine own_go (fun _ k => XS.iload X24.here hx rfl (hb hby at_339) rfl k) ?_
  refine own_go (fun _ k => XS.iconst X24.here hx rfl (hb hby at_341) k) ?_
  refine own_go (fun _ k => XS.icmpYes X24.here hx rfl (pc0 := 342) (pc' := 357) rfl (hb hby at_342) rfl (flt hm1).2.2.2 (by decide) (by decide) k) ?_
  refine own_go (fun _ k => XS.iload X24.here hx rfl (hb hby at_357) rfl k) ?_
  refine own_go (fun _ k => XS.iconst X24.here hx rfl (hb hby at_359) k) ?_
  show own_Go p e below s _ _ _ (T24.setTop (mkF m 360 #[iv p1, iv p2, iv p3, iv p4, iv p5, iv p6, iv nn, iv sv0, iv sv1, iv sv2, iv sp, rv ls, iv c12, iv c13, iv c14, rv b1, iv (((0 : Int32) - c13) - c14), iv (0 : Int32)] [(.int (2 : Int32)), (.int nn)]))
  refine own_go (fun _ k => XS.icmpYes X24.here hx rfl (pc0 := 360) (pc' := 375) rfl (hb hby at_360) rfl (flt hm2).2.2.2 (by decide) (by decide) k) ?_
  refine own_go (fun _ k => XS.iload X24.here hx rfl (hb hby at_375) rfl k) ?_
  refine own_go (fun _ k => XS.iload X24.here hx rfl (hb hby at_377) rfl k) ?_
  refine own_go (fun _ k => XS.icmpNo X24.here hx rfl (hb hby at_379) rfl (teq (own_Rv hR (by simp))).2 k) ?_
  refine own_go (fun _ k => XS.iload X24.here hx rfl (hb hby at_382) rfl k) ?_
  refine own_go (fun _ k => XS.iload X24.here hx rfl (hb hby at_384) rfl k) ?_
  refine own_go (fun _ k => XS.icmpNo X24.here hx rfl (hb hby at_386) rfl (teq ((own_Rv hR (by simp)).trans (own_Rs hR (by simp)))).2 k) ?_
  show own_Go p e below s _ _ _ (T24.setTop (mkF m 389 #[iv p1, iv p2, iv p3, iv p4, iv p5, iv p6, iv nn, iv sv0, iv sv1, iv sv2, iv sp, rv ls, iv c12, iv c13, iv c14, rv b1, iv (((0 : Int32) - c13) - c14), iv (0 : Int32)] []))
  refine own_go (fun _ k => XS.iconst X24.here hx rfl (hb hby at_389) k) ?_
  refine own_go (fun _ k => XS.goto X24.here hx rfl (pc0 := 390) (pc' := 394) rfl (hb hby at_390) (by decide) (by decide) k) ?_
  show own_Go p e below s _ _ _ (T24.setTop (mkF m 394 #[iv p1, iv p2, iv p3, iv p4, iv p5, iv p6, iv nn, iv sv0, iv sv1, iv sv2, iv sp, rv ls, iv c12, iv c13, iv c14, rv b1, iv (((0 : Int32) - c13) - c14), iv (0 : Int32)] [(.int (1 : Int32))]))
  refine own_retN X24 hx hlk Kc25 (t := .boolean) hret (by simp) (hb hby at_394) (by show _ ≤ 48; omega) (by show _ ≤ 256; omega) ?_
  exact ⟨rfl, N0, K0⟩
set_option maxRecDepth 65536 in
set_option maxHeartbeats 40000000 in
theorem sg_s293_1 {l : Launch} {Z : State} {a0 : Array Value} (hw : ∀ d ∈ tables_1, d.before a0 Z = true) {wd : Addr} {kd : ClassId} (oDE : Sta Z Z.heap "java/util/ArrayList" "DEFAULTCAPACITY_EMPTY_ELEMENTDATA" "[Ljava/lang/Object;" (.ref wd)) (oDV : Arv Z Z.heap wd kd (.object "java/lang/Object") (0 : Int32) [] .null) {p : Program} {e : Env} {s : State} {m : MethodId} {args : Array Value} {below : List Frame} {meth : Method} {c : Code} {T : State} {locs : List Loc} {cells slots : Nat} (p1 : Int32) (p2 : Int32) (p3 : Int32) (p4 : Int32) (p5 : Int32) (p6 : Int32) (nn : Int32) (sv0 : Int32) (sv1 : Int32) (sv2 : Int32) (sp : Int32) (ls : Addr) (c12 : Int32) (c13 : Int32) (c14 : Int32) (mc : Int32) (b : Addr) (k : ClassId) (el1 : Addr) (x0 : Int32) (pa0 : Addr) (kp0 : ClassId) (h0 hs1 : Heap)
    (X0 : Stand p l e room_1 s m args below meth c T locs cells slots) (hx : p.tables.exec = Jvm.exec) (hby : c.code = code) (hml : c.maxLocals = 18) (hret : meth.sig.returnType = some .boolean) (hlk : meth.locks = false) (hZ : Z.Warmed39 s.vm) (hown : s.vm.findClass "com/example/nudo/nudo/LoadingResultVehiclesExitedPinLaw" = some m.cls) (hnm : meth.name = "law") (e0 : T.heap = hs1) (N0 : Fr Z.heap.size locs) (O0 : Ext Z.heap hs1) (K0 : Keep h0 hs1 []) (fp0 : Exa Z hs1 ls "java/util/ArrayList") (fp1 : Fld Z hs1 ls "java/util/ArrayList" "size" "I" (.int (1 : Int32))) (fp2 : Fld Z hs1 ls "java/util/ArrayList" "elementData" "[Ljava/lang/Object;" (.ref b)) (fp3 : Fld Z hs1 ls "java/util/AbstractList" "modCount" "I" (.int mc)) (fp4 : Arv Z hs1 b k (.object "java/lang/Object") (10 : Int32) [(.ref el1), .null, .null, .null, .null, .null, .null, .null, .null, .null] .null) (fp5 : Ovr Z k "java/lang/Object") (fp6 : Exa Z hs1 el1 "com/example/nudo/nudo/Vehicle") (fp7 : Fld Z hs1 el1 "com/example/nudo/nudo/Vehicle" "position" "I" (.int (-1 : Int32))) (fp8 : Fld Z hs1 el1 "com/example/nudo/nudo/Vehicle" "exitStep" "I" (.int x0)) (fp9 : Fld Z hs1 el1 "com/example/nudo/nudo/Vehicle" "trip" "I" (.int (0 : Int32))) (fp10 : Fld Z hs1 el1 "com/example/nudo/nudo/Vehicle" "path" "[Lcom/example/nudo/nudo/CellLink;" (.ref pa0)) (fp11 : Fld Z hs1 el1 "com/example/nudo/nudo/Vehicle" "departureStep" "I" (.int p4)) (fp12 : Arv Z hs1 pa0 kp0 (.object "com/example/nudo/nudo/CellLink") (0 : Int32) [] .null) (big_ls : Z.heap.size ≤ ls) (sz_ls : h0.size ≤ ls) (big_b : Z.heap.size ≤ b) (sz_b : h0.size ≤ b) (hn0 : (0 : Int32) < nn) (hm1 : ¬ ((1 : Int32) < nn)) (hm2 : ¬ ((2 : Int32) < nn)) (hR : own_R [x0] c12 c13 c14) (hcells : cells ≤ 5) (hslots : slots ≤ 23) :
    own_Go p e below s (Q_law Z wd kd p1 p2 p3 p4 p5 p6 h0) room_1.cells room_1.slots (T.setTop (mkF m 293 #[iv p1, iv p2, iv p3, iv p4, iv p5, iv p6, iv nn, iv sv0, iv sv1, iv sv2, iv sp, rv ls, iv c12, iv c13, iv c14, .unset, .unset, .unset] [])) := by
  have K1 := Keep.refl hs1 [ls, b]
  have ne27 : el1 ≠ ls := (ne_exa fp6 fp0 (by decide))
  have ne28 : el1 ≠ b := (Exa.neArv fp6 fp4 (ow110 hw))
  have ne29 : pa0 ≠ ls := (Ne.symm (Exa.neArv fp0 fp12 (ow2 hw)))
  have ne30 : pa0 ≠ b := (own_neTy fp12 fp4 (by decide))
  show own_Go p e below s _ _ _ (T.setTop (mkF m 293 #[iv p1, iv p2, iv p3, iv p4, iv p5, iv p6, iv nn, iv sv0, iv sv1, iv sv2, iv sp, rv ls, iv c12, iv c13, iv c14, .unset, .unset, .unset] []))
  obtain ⟨T31, h31, X31, e31, E31, A31, D31, -, st31⟩ := newO X0 hx hZ hown (ow27 hw) (ow28 hw) (ow29 hw) e0 (g := (mkF m 293 #[iv p1, iv p2, iv p3, iv p4, iv p5, iv p6, iv nn, iv sv0, iv sv1, iv sv2, iv sp, rv ls, iv c12, iv c13, iv c14, .unset, .unset, .unset] [])) rfl (hb hby at_293) (by show _ ≤ 48; omega) (by show _ ≤ 256; omega)
  obtain ⟨b31, g31⟩ : ∃ z, z = hs1.size := ⟨_, rfl⟩
  rw [← g31] at A31 D31 st31
  refine own_go st31 ?_
  clear st31 X0 e0
  have ge31 := Nat.le_of_eq g31.symm
  have ne32 : ls ≠ b31 := Nat.ne_of_lt (Nat.lt_of_lt_of_le fp0.lt ge31)
  have ne33 : b ≠ b31 := Nat.ne_of_lt (Nat.lt_of_lt_of_le fp4.lt ge31)
  have big34 : Z.heap.size ≤ b31 := Nat.le_trans O0.1 ge31
  have sz35 : h0.size ≤ b31 := Nat.le_trans K0.1 ge31
  have sz36 : hs1.size ≤ b31 := Nat.le_trans K1.1 ge31
  replace fp0 := fp0.ext E31
  replace fp1 := fp1.ext E31
  replace fp2 := fp2.ext E31
  replace fp3 := fp3.ext E31
  replace fp4 := fp4.ext E31
  replace O0 := own_oldExt O0 E31
  replace K0 := K0.ext E31
  replace K1 := K1.ext E31
  clear E31
  have f37 : Fld Z h31 b31 "com/example/nudo/nudo/LoadingResult" "timeStep" "I" (.int (0 : Int32)) := D31 (Or.inr (ow35 hw)) (ty := .int) own_fd0
  have f38 : Fld Z h31 b31 "com/example/nudo/nudo/LoadingResult" "departureSteps" "[I" .null := D31 (Or.inr (ow49 hw)) (ty := (.array .int)) own_fd4
  have f39 : Fld Z h31 b31 "com/example/nudo/nudo/LoadingResult" "exitSteps" "[I" .null := D31 (Or.inr (ow51 hw)) (ty := (.array .int)) own_fd4
  have f40 : Fld Z h31 b31 "com/example/nudo/nudo/LoadingResult" "freeFlowSteps" "[I" .null := D31 (Or.inr (ow53 hw)) (ty := (.array .int)) own_fd4
  have f41 : Fld Z h31 b31 "com/example/nudo/nudo/LoadingResult" "linkEntrySteps" "[[I" .null := D31 (Or.inr (ow57 hw)) (ty := (.array (.array .int))) own_fd6
  have f42 : Fld Z h31 b31 "com/example/nudo/nudo/LoadingResult" "endStep" "I" (.int (0 : Int32)) := D31 (Or.inr (ow95 hw)) (ty := .int) own_fd0
  have f43 : Fld Z h31 b31 "com/example/nudo/nudo/LoadingResult" "vehiclesWaiting" "I" (.int (0 : Int32)) := D31 (Or.inr (ow97 hw)) (ty := .int) own_fd0
  have f44 : Fld Z h31 b31 "com/example/nudo/nudo/LoadingResult" "vehiclesInNetwork" "I" (.int (0 : Int32)) := D31 (Or.inr (ow99 hw)) (ty := .int) own_fd0
  refine own_go (fun _ k => XS.dup X31.here hx rfl (hb hby at_296) rfl rfl k) ?_
  refine own_go (fun _ k => XS.iload X31.here hx rfl (hb hby at_297) rfl k) ?_
  refine own_go (fun _ k => XS.aload X31.here hx rfl (hb hby at_299) rfl rfl k) ?_
  refine own_go (fun _ k => XS.iload X31.here hx rfl (hb hby at_301) rfl k) ?_
  refine own_go (fun _ k => XS.iload X31.here hx rfl (hb hby at_303) rfl k) ?_
  refine own_go (fun _ k => XS.iload X31.here hx rfl (hb hby at_305) rfl k) ?_
  show own_Go p e below s _ _ _ (T31.setTop (mkF m 307 #[iv p1, iv p2, iv p3, iv p4, iv p5, iv p6, iv nn, iv sv0, iv sv1, iv sv2, iv sp, rv ls, iv c12, iv c13, iv c14, .unset, .unset, .unset] [(.int p6), (.int c14), (.int c13), (.ref ls), (.int p5), (.ref b31), (.ref b31)]))
  obtain ⟨v45, T45, L45, X45, hQ45, st45⟩ := own_callI (y := (⟨"com/example/nudo/nudo/LoadingResult", "<init>", "(ILjava/util/List;III)V"⟩ : MethodName)) X31 hx hZ hown (ow30 hw) (ow31 hw) (ow29 hw) (ow32 hw) (rm_lrinit1 l Z a0 hw oDE oDV [] b31 p5 ls c13 c14 p6 mc b k el1 x0 p4 pa0 kp0 h31 O0 A31 f37 f38 f39 f40 f41 f42 f43 f44 fp0 fp1 fp2 fp3 fp4 (fp6.keep K1) (fp7.keep K1 (ninS ne27 (ninS ne28 nin0))) (fp8.keep K1 (ninS ne27 (ninS ne28 nin0))) (fp9.keep K1 (ninS ne27 (ninS ne28 nin0))) (fp10.keep K1 (ninS ne27 (ninS ne28 nin0))) (fp11.keep K1 (ninS ne27 (ninS ne28 nin0))) (fp12.keep K1 (ninS ne29 (ninS ne30 nin0))) big34) 1 6 8 rfl (by show _ ≤ 48; omega) (by show _ ≤ 256; omega) e31 (g := (mkF m 307 #[iv p1, iv p2, iv p3, iv p4, iv p5, iv p6, iv nn, iv sv0, iv sv1, iv sv2, iv sp, rv ls, iv c12, iv c13, iv c14, .unset, .unset, .unset] [(.int p6), (.int c14), (.int c13), (.ref ls), (.int p5), (.ref b31), (.ref b31)])) rfl (by rw [hml]; rfl) b31 [(.int p5), (.ref ls), (.int c13), (.int c14), (.int p6)] [(.ref b31)] (lenOf own_pd_13 rfl) rfl rfl (hb hby at_307)
  obtain ⟨w46, w47, rfl, Nc54, Kc53, f48, f49, f50, f51, f52⟩ := hQ45
  refine own_go st45 ?_
  clear st45 X31 e31
  replace N0 := Fr.app N0 Nc54
  clear Nc54
  replace fp0 := fp0.keep Kc53
  replace fp1 := fp1.keep Kc53 (ninS ne32 nin0)
  replace fp2 := fp2.keep Kc53 (ninS ne32 nin0)
  replace fp3 := fp3.keep Kc53 (ninS ne32 nin0)
  replace fp4 := fp4.keep Kc53 (ninS ne33 nin0)
  replace A31 := A31.keep Kc53
  clear f37
  clear f38
  clear f39
  clear f40
  clear f41
  clear f42
  clear f43
  clear f44
  replace O0 := own_oldKeep O0 Kc53 (allS big34 all0)
  replace K0 := K0.trans Kc53 (allS (Or.inr sz35) all0)
  replace K1 := K1.trans Kc53 (allS (Or.inr sz36) all0)
  clear Kc53
  refine own_go (fun _ k => XS.astore X45.here hx rfl (hb hby at_310) rfl rfl (l' := #[iv p1, iv p2, iv p3, iv p4, iv p5, iv p6, iv nn, iv sv0, iv sv1, iv sv2, iv sp, rv ls, iv c12, iv c13, iv c14, rv b31, .unset, .unset]) rfl k) ?_
  refine own_go (fun _ k => XS.aload X45.here hx rfl (hb hby at_312) rfl rfl k) ?_
  obtain ⟨v55, T55, L55, X55, hQ55, st55⟩ := own_callV (y := (⟨"com/example/nudo/nudo/LoadingResult", "vehiclesExited", "()I"⟩ : MethodName)) (z := (⟨"com/example/nudo/nudo/LoadingResult", "vehiclesExited", "()I"⟩ : MethodName)) X45 hx hZ hown (ow100 hw) (ow101 hw) (notFace_of_selects (args := #[]) (mvT hZ (ow103 hw))) (ow103 hw) (ow102 hw) (ow29 hw) (ow104 hw) (rm_lrv_1 l Z a0 hw oDE oDV [] b31 w46 w47 x0 c13 c14 T45.heap O0 f49 f52 f50 f51) 0 0 0 (by show _ ≤ 48; omega) (by show _ ≤ 256; omega) (rfl : T45.heap = T45.heap) f48 (g := (mkF m 314 #[iv p1, iv p2, iv p3, iv p4, iv p5, iv p6, iv nn, iv sv0, iv sv1, iv sv2, iv sp, rv ls, iv c12, iv c13, iv c14, rv b31, .unset, .unset] [(.ref b31)])) rfl (by rw [hml]; rfl) [] [] (lenOf own_pd_9 rfl) rfl rfl (hb hby at_314)
  obtain ⟨rfl, Nc57, Kc56⟩ := hQ55
  refine own_go st55 ?_
  clear st55 X45
  replace N0 := Fr.app N0 Nc57
  clear Nc57
  refine own_go (fun _ k => XS.istore X55.here hx rfl (hb hby at_317) rfl (l' := #[iv p1, iv p2, iv p3, iv p4, iv p5, iv p6, iv nn, iv sv0, iv sv1, iv sv2, iv sp, rv ls, iv c12, iv c13, iv c14, rv b31, iv (((1 : Int32) - c13) - c14), .unset]) rfl k) ?_
  refine own_go (fun _ k => XS.iconst X55.here hx rfl (hb hby at_319) k) ?_
  refine own_go (fun _ k => XS.istore X55.here hx rfl (hb hby at_320) rfl (l' := #[iv p1, iv p2, iv p3, iv p4, iv p5, iv p6, iv nn, iv sv0, iv sv1, iv sv2, iv sp, rv ls, iv c12, iv c13, iv c14, rv b31, iv (((1 : Int32) - c13) - c14), iv (0 : Int32)]) rfl k) ?_
  show own_Go p e below s _ _ _ (T55.setTop (mkF m 322 #[iv p1, iv p2, iv p3, iv p4, iv p5, iv p6, iv nn, iv sv0, iv sv1, iv sv2, iv sp, rv ls, iv c12, iv c13, iv c14, rv b31, iv (((1 : Int32) - c13) - c14), iv (0 : Int32)] []))
  refine own_go (fun _ k => XS.iload X55.here hx rfl (hb hby at_322) rfl k) ?_
  refine own_go (fun _ k => XS.ifNo X55.here hx rfl (hb hby at_324) rfl ((if0 _ _).trans (tlt hn0).2.2.2) k) ?_
  refine own_go (fun _ k => XS.aload X55.here hx rfl (hb hby at_327) rfl rfl k) ?_
  refine own_go (fun _ k => XS.iconst X55.here hx rfl (hb hby at_329) k) ?_
  obtain ⟨v58, T58, L58, X58, hQ58, st58⟩ := own_callV (y := (⟨"com/example/nudo/nudo/LoadingResult", "exited", "(I)Z"⟩ : MethodName)) (z := (⟨"com/example/nudo/nudo/LoadingResult", "exited", "(I)Z"⟩ : MethodName)) X55 hx hZ hown (ow218 hw) (ow219 hw) (notFace_of_selects (args := #[]) (mvT hZ (ow221 hw))) (ow221 hw) (ow220 hw) (ow29 hw) (ow222 hw) (rm_lrx_1_0 l Z a0 hw oDE oDV [] b31 w46 w47 x0 T45.heap O0 f49 f52) 0 0 0 (by show _ ≤ 48; omega) (by show _ ≤ 256; omega) Kc56 f48 (g := (mkF m 330 #[iv p1, iv p2, iv p3, iv p4, iv p5, iv p6, iv nn, iv sv0, iv sv1, iv sv2, iv sp, rv ls, iv c12, iv c13, iv c14, rv b31, iv (((1 : Int32) - c13) - c14), iv (0 : Int32)] [(.int (0 : Int32)), (.ref b31)])) rfl (by rw [hml]; rfl) [(.int (0 : Int32))] [] (lenOf own_pd_14 rfl) rfl rfl (hb hby at_330)
  rcases hQ58 with hQ58 | hQ58
  · obtain ⟨rfl, Nc61, hp59, Kc60⟩ := hQ58
    refine own_go st58 ?_
    clear st58 X55 Kc56
    replace N0 := Fr.app N0 Nc61
    clear Nc61
    show own_Go p e below s _ _ _ (T58.setTop (mkF m 333 #[iv p1, iv p2, iv p3, iv p4, iv p5, iv p6, iv nn, iv sv0, iv sv1, iv sv2, iv sp, rv ls, iv c12, iv c13, iv c14, rv b31, iv (((1 : Int32) - c13) - c14), iv (0 : Int32)] [(.int (0 : Int32))]))
    refine own_go (fun _ k => XS.ifYes X58.here hx rfl (pc0 := 333) (pc' := 339) rfl (hb hby at_333) rfl ((if0 _ _).trans (teq (by decide : (0 : Int32) = (0 : Int32))).1) (by decide) (by decide) k) ?_
    refine own_go (fun _ k => XS.iload X58.here hx rfl (hb hby at_339) rfl k) ?_
    refine own_go (fun _ k => XS.iconst X58.here hx rfl (hb hby at_341) k) ?_
    refine own_go (fun _ k => XS.icmpYes X58.here hx rfl (pc0 := 342) (pc' := 357) rfl (hb hby at_342) rfl (flt hm1).2.2.2 (by decide) (by decide) k) ?_
    refine own_go (fun _ k => XS.iload X58.here hx rfl (hb hby at_357) rfl k) ?_
    refine own_go (fun _ k => XS.iconst X58.here hx rfl (hb hby at_359) k) ?_
    refine own_go (fun _ k => XS.icmpYes X58.here hx rfl (pc0 := 360) (pc' := 375) rfl (hb hby at_360) rfl (flt hm2).2.2.2 (by decide) (by decide) k) ?_
    show own_Go p e below s _ _ _ (T58.setTop (mkF m 375 #[iv p1, iv p2, iv p3, iv p4, iv p5, iv p6, iv nn, iv sv0, iv sv1, iv sv2, iv sp, rv ls, iv c12, iv c13, iv c14, rv b31, iv (((1 : Int32) - c13) - c14), iv (0 : Int32)] []))
    refine own_go (fun _ k => XS.iload X58.here hx rfl (hb hby at_375) rfl k) ?_
    refine own_go (fun _ k => XS.iload X58.here hx rfl (hb hby at_377) rfl k) ?_
    refine own_go (fun _ k => XS.icmpNo X58.here hx rfl (hb hby at_379) rfl (teq (own_Rv hR (by simp))).2 k) ?_
    refine own_go (fun _ k => XS.iload X58.here hx rfl (hb hby at_382) rfl k) ?_
    refine own_go (fun _ k => XS.iload X58.here hx rfl (hb hby at_384) rfl k) ?_
    refine own_go (fun _ k => XS.icmpNo X58.here hx rfl (hb hby at_386) rfl (teq ((own_Rv hR (by simp)).trans (own_Rs hR (by simp [List.filter, hp59])))).2 k) ?_
    refine own_go (fun _ k => XS.iconst X58.here hx rfl (hb hby at_389) k) ?_
    show own_Go p e below s _ _ _ (T58.setTop (mkF m 390 #[iv p1, iv p2, iv p3, iv p4, iv p5, iv p6, iv nn, iv sv0, iv sv1, iv sv2, iv sp, rv ls, iv c12, iv c13, iv c14, rv b31, iv (((1 : Int32) - c13) - c14), iv (0 : Int32)] [(.int (1 : Int32))]))
    refine own_go (fun _ k => XS.goto X58.here hx rfl (pc0 := 390) (pc' := 394) rfl (hb hby at_390) (by decide) (by decide) k) ?_
    show own_Go p e below s _ _ _ (T58.setTop (mkF m 394 #[iv p1, iv p2, iv p3, iv p4, iv p5, iv p6, iv nn, iv sv0, iv sv1, iv sv2, iv sp, rv ls, iv c12, iv c13, iv c14, rv b31, iv (((1 : Int32) - c13) - c14), iv (0 : Int32)] [(.int (1 : Int32))]))
    refine own_retN X58 hx hlk Kc60 (t := .boolean) hret (by simp) (hb hby at_394) (by show _ ≤ 48; omega) (by show _ ≤ 256; omega) ?_
    exact ⟨rfl, N0, K0⟩
  · obtain ⟨rfl, Nc64, hp62, Kc63⟩ := hQ58
    refine own_go st58 ?_
    clear st58 X55 Kc56
    replace N0 := Fr.app N0 Nc64
    clear Nc64
    show own_Go p e below s _ _ _ (T58.setTop (mkF m 333 #[iv p1, iv p2, iv p3, iv p4, iv p5, iv p6, iv nn, iv sv0, iv sv1, iv sv2, iv sp, rv ls, iv c12, iv c13, iv c14, rv b31, iv (((1 : Int32) - c13) - c14), iv (0 : Int32)] [(.int (1 : Int32))]))
    refine own_go (fun _ k => XS.ifNo X58.here hx rfl (hb hby at_333) rfl ((if0 _ _).trans (feq (by decide : ¬ ((1 : Int32) = (0 : Int32)))).1) k) ?_
    refine own_go (fun _ k => XS.iinc X58.here hx rfl (hb hby at_336) rfl (l' := #[iv p1, iv p2, iv p3, iv p4, iv p5, iv p6, iv nn, iv sv0, iv sv1, iv sv2, iv sp, rv ls, iv c12, iv c13, iv c14, rv b31, iv (((1 : Int32) - c13) - c14), iv (1 : Int32)]) rfl k) ?_
    refine own_go (fun _ k => XS.iload X58.here hx rfl (hb hby at_339) rfl k) ?_
    refine own_go (fun _ k => XS.iconst X58.here hx rfl (hb hby at_341) k) ?_
    refine own_go (fun _ k => XS.icmpYes X58.here hx rfl (pc0 := 342) (pc' := 357) rfl (hb hby at_342) rfl (flt hm1).2.2.2 (by decide) (by decide) k) ?_
    refine own_go (fun _ k => XS.iload X58.here hx rfl (hb hby at_357) rfl k) ?_
    refine own_go (fun _ k => XS.iconst X58.here hx rfl (hb hby at_359) k) ?_
    show own_Go p e below s _ _ _ (T58.setTop (mkF m 360 #[iv p1, iv p2, iv p3, iv p4, iv p5, iv p6, iv nn, iv sv0, iv sv1, iv sv2, iv sp, rv ls, iv c12, iv c13, iv c14, rv b31, iv (((1 : Int32) - c13) - c14), iv (1 : Int32)] [(.int (2 : Int32)), (.int nn)]))
    refine own_go (fun _ k => XS.icmpYes X58.here hx rfl (pc0 := 360) (pc' := 375) rfl (hb hby at_360) rfl (flt hm2).2.2.2 (by decide) (by decide) k) ?_
    refine own_go (fun _ k => XS.iload X58.here hx rfl (hb hby at_375) rfl k) ?_
    refine own_go (fun _ k => XS.iload X58.here hx rfl (hb hby at_377) rfl k) ?_
    refine own_go (fun _ k => XS.icmpNo X58.here hx rfl (hb hby at_379) rfl (teq (own_Rv hR (by simp))).2 k) ?_
    refine own_go (fun _ k => XS.iload X58.here hx rfl (hb hby at_382) rfl k) ?_
    refine own_go (fun _ k => XS.iload X58.here hx rfl (hb hby at_384) rfl k) ?_
    refine own_go (fun _ k => XS.icmpNo X58.here hx rfl (hb hby at_386) rfl (teq ((own_Rv hR (by simp)).trans (own_Rs hR (by simp [List.filter, hp62])))).2 k) ?_
    show own_Go p e below s _ _ _ (T58.setTop (mkF m 389 #[iv p1, iv p2, iv p3, iv p4, iv p5, iv p6, iv nn, iv sv0, iv sv1, iv sv2, iv sp, rv ls, iv c12, iv c13, iv c14, rv b31, iv (((1 : Int32) - c13) - c14), iv (1 : Int32)] []))
    refine own_go (fun _ k => XS.iconst X58.here hx rfl (hb hby at_389) k) ?_
    refine own_go (fun _ k => XS.goto X58.here hx rfl (pc0 := 390) (pc' := 394) rfl (hb hby at_390) (by decide) (by decide) k) ?_
    show own_Go p e below s _ _ _ (T58.setTop (mkF m 394 #[iv p1, iv p2, iv p3, iv p4, iv p5, iv p6, iv nn, iv sv0, iv sv1, iv sv2, iv sp, rv ls, iv c12, iv c13, iv c14, rv b31, iv (((1 : Int32) - c13) - c14), iv (1 : Int32)] [(.int (1 : Int32))]))
    refine own_retN X58 hx hlk Kc63 (t := .boolean) hret (by simp) (hb hby at_394) (by show _ ≤ 48; omega) (by show _ ≤ 256; omega) ?_
    exact ⟨rfl, N0, K0⟩
set_option maxRecDepth 65536 in
set_option maxHeartbeats 40000000 in
theorem sg_s293_2 {l : Launch} {Z : State} {a0 : Array Value} (hw : ∀ d ∈ tables_1, d.before a0 Z = true) {wd : Addr} {kd : ClassId} (oDE : Sta Z Z.heap "java/util/ArrayList" "DEFAULTCAPACITY_EMPTY_ELEMENTDATA" "[Ljava/lang/Object;" (.ref wd)) (oDV : Arv Z Z.heap wd kd (.object "java/lang/Object") (0 : Int32) [] .null) {p : Program} {e : Env} {s : State} {m : MethodId} {args : Array Value} {below : List Frame} {meth : Method} {c : Code} {T : State} {locs : List Loc} {cells slots : Nat} (p1 : Int32) (p2 : Int32) (p3 : Int32) (p4 : Int32) (p5 : Int32) (p6 : Int32) (nn : Int32) (sv0 : Int32) (sv1 : Int32) (sv2 : Int32) (sp : Int32) (ls : Addr) (c12 : Int32) (c13 : Int32) (c14 : Int32) (mc : Int32) (b : Addr) (k : ClassId) (el1 : Addr) (x0 : Int32) (pa0 : Addr) (kp0 : ClassId) (el2 : Addr) (x1 : Int32) (pa1 : Addr) (kp1 : ClassId) (h0 hs1 : Heap)
    (X0 : Stand p l e room_1 s m args below meth c T locs cells slots) (hx : p.tables.exec = Jvm.exec) (hby : c.code = code) (hml : c.maxLocals = 18) (hret : meth.sig.returnType = some .boolean) (hlk : meth.locks = false) (hZ : Z.Warmed39 s.vm) (hown : s.vm.findClass "com/example/nudo/nudo/LoadingResultVehiclesExitedPinLaw" = some m.cls) (hnm : meth.name = "law") (e0 : T.heap = hs1) (N0 : Fr Z.heap.size locs) (O0 : Ext Z.heap hs1) (K0 : Keep h0 hs1 []) (fp0 : Exa Z hs1 ls "java/util/ArrayList") (fp1 : Fld Z hs1 ls "java/util/ArrayList" "size" "I" (.int (2 : Int32))) (fp2 : Fld Z hs1 ls "java/util/ArrayList" "elementData" "[Ljava/lang/Object;" (.ref b)) (fp3 : Fld Z hs1 ls "java/util/AbstractList" "modCount" "I" (.int mc)) (fp4 : Arv Z hs1 b k (.object "java/lang/Object") (10 : Int32) [(.ref el1), (.ref el2), .null, .null, .null, .null, .null, .null, .null, .null] .null) (fp5 : Ovr Z k "java/lang/Object") (fp6 : Exa Z hs1 el1 "com/example/nudo/nudo/Vehicle") (fp7 : Fld Z hs1 el1 "com/example/nudo/nudo/Vehicle" "position" "I" (.int (-1 : Int32))) (fp8 : Fld Z hs1 el1 "com/example/nudo/nudo/Vehicle" "exitStep" "I" (.int x0)) (fp9 : Fld Z hs1 el1 "com/example/nudo/nudo/Vehicle" "trip" "I" (.int (0 : Int32))) (fp10 : Fld Z hs1 el1 "com/example/nudo/nudo/Vehicle" "path" "[Lcom/example/nudo/nudo/CellLink;" (.ref pa0)) (fp11 : Fld Z hs1 el1 "com/example/nudo/nudo/Vehicle" "departureStep" "I" (.int p4)) (fp12 : Arv Z hs1 pa0 kp0 (.object "com/example/nudo/nudo/CellLink") (0 : Int32) [] .null) (fp13 : Exa Z hs1 el2 "com/example/nudo/nudo/Vehicle") (fp14 : Fld Z hs1 el2 "com/example/nudo/nudo/Vehicle" "position" "I" (.int (-1 : Int32))) (fp15 : Fld Z hs1 el2 "com/example/nudo/nudo/Vehicle" "exitStep" "I" (.int x1)) (fp16 : Fld Z hs1 el2 "com/example/nudo/nudo/Vehicle" "trip" "I" (.int (1 : Int32))) (fp17 : Fld Z hs1 el2 "com/example/nudo/nudo/Vehicle" "path" "[Lcom/example/nudo/nudo/CellLink;" (.ref pa1)) (fp18 : Fld Z hs1 el2 "com/example/nudo/nudo/Vehicle" "departureStep" "I" (.int p4)) (fp19 : Arv Z hs1 pa1 kp1 (.object "com/example/nudo/nudo/CellLink") (0 : Int32) [] .null) (big_ls : Z.heap.size ≤ ls) (sz_ls : h0.size ≤ ls) (big_b : Z.heap.size ≤ b) (sz_b : h0.size ≤ b) (hn0 : (0 : Int32) < nn) (hn1 : (1 : Int32) < nn) (hm2 : ¬ ((2 : Int32) < nn)) (hR : own_R [x0, x1] c12 c13 c14) (hcells : cells ≤ 8) (hslots : slots ≤ 33) :
    own_Go p e below s (Q_law Z wd kd p1 p2 p3 p4 p5 p6 h0) room_1.cells room_1.slots (T.setTop (mkF m 293 #[iv p1, iv p2, iv p3, iv p4, iv p5, iv p6, iv nn, iv sv0, iv sv1, iv sv2, iv sp, rv ls, iv c12, iv c13, iv c14, .unset, .unset, .unset] [])) := by
  have K1 := Keep.refl hs1 [ls, b]
  have ne65 : el1 ≠ ls := (ne_exa fp6 fp0 (by decide))
  have ne66 : el1 ≠ b := (Exa.neArv fp6 fp4 (ow110 hw))
  have ne67 : pa0 ≠ ls := (Ne.symm (Exa.neArv fp0 fp12 (ow2 hw)))
  have ne68 : pa0 ≠ b := (own_neTy fp12 fp4 (by decide))
  have ne69 : el2 ≠ ls := (ne_exa fp13 fp0 (by decide))
  have ne70 : el2 ≠ b := (Exa.neArv fp13 fp4 (ow110 hw))
  have ne71 : pa1 ≠ ls := (Ne.symm (Exa.neArv fp0 fp19 (ow2 hw)))
  have ne72 : pa1 ≠ b := (own_neTy fp19 fp4 (by decide))
  show own_Go p e below s _ _ _ (T.setTop (mkF m 293 #[iv p1, iv p2, iv p3, iv p4, iv p5, iv p6, iv nn, iv sv0, iv sv1, iv sv2, iv sp, rv ls, iv c12, iv c13, iv c14, .unset, .unset, .unset] []))
  obtain ⟨T73, h73, X73, e73, E73, A73, D73, -, st73⟩ := newO X0 hx hZ hown (ow27 hw) (ow28 hw) (ow29 hw) e0 (g := (mkF m 293 #[iv p1, iv p2, iv p3, iv p4, iv p5, iv p6, iv nn, iv sv0, iv sv1, iv sv2, iv sp, rv ls, iv c12, iv c13, iv c14, .unset, .unset, .unset] [])) rfl (hb hby at_293) (by show _ ≤ 48; omega) (by show _ ≤ 256; omega)
  obtain ⟨b73, g73⟩ : ∃ z, z = hs1.size := ⟨_, rfl⟩
  rw [← g73] at A73 D73 st73
  refine own_go st73 ?_
  clear st73 X0 e0
  have ge73 := Nat.le_of_eq g73.symm
  have ne74 : ls ≠ b73 := Nat.ne_of_lt (Nat.lt_of_lt_of_le fp0.lt ge73)
  have ne75 : b ≠ b73 := Nat.ne_of_lt (Nat.lt_of_lt_of_le fp4.lt ge73)
  have big76 : Z.heap.size ≤ b73 := Nat.le_trans O0.1 ge73
  have sz77 : h0.size ≤ b73 := Nat.le_trans K0.1 ge73
  have sz78 : hs1.size ≤ b73 := Nat.le_trans K1.1 ge73
  replace fp0 := fp0.ext E73
  replace fp1 := fp1.ext E73
  replace fp2 := fp2.ext E73
  replace fp3 := fp3.ext E73
  replace fp4 := fp4.ext E73
  replace O0 := own_oldExt O0 E73
  replace K0 := K0.ext E73
  replace K1 := K1.ext E73
  clear E73
  have f79 : Fld Z h73 b73 "com/example/nudo/nudo/LoadingResult" "timeStep" "I" (.int (0 : Int32)) := D73 (Or.inr (ow35 hw)) (ty := .int) own_fd0
  have f80 : Fld Z h73 b73 "com/example/nudo/nudo/LoadingResult" "departureSteps" "[I" .null := D73 (Or.inr (ow49 hw)) (ty := (.array .int)) own_fd4
  have f81 : Fld Z h73 b73 "com/example/nudo/nudo/LoadingResult" "exitSteps" "[I" .null := D73 (Or.inr (ow51 hw)) (ty := (.array .int)) own_fd4
  have f82 : Fld Z h73 b73 "com/example/nudo/nudo/LoadingResult" "freeFlowSteps" "[I" .null := D73 (Or.inr (ow53 hw)) (ty := (.array .int)) own_fd4
  have f83 : Fld Z h73 b73 "com/example/nudo/nudo/LoadingResult" "linkEntrySteps" "[[I" .null := D73 (Or.inr (ow57 hw)) (ty := (.array (.array .int))) own_fd6
  have f84 : Fld Z h73 b73 "com/example/nudo/nudo/LoadingResult" "endStep" "I" (.int (0 : Int32)) := D73 (Or.inr (ow95 hw)) (ty := .int) own_fd0
  have f85 : Fld Z h73 b73 "com/example/nudo/nudo/LoadingResult" "vehiclesWaiting" "I" (.int (0 : Int32)) := D73 (Or.inr (ow97 hw)) (ty := .int) own_fd0
  have f86 : Fld Z h73 b73 "com/example/nudo/nudo/LoadingResult" "vehiclesInNetwork" "I" (.int (0 : Int32)) := D73 (Or.inr (ow99 hw)) (ty := .int) own_fd0
  refine own_go (fun _ k => XS.dup X73.here hx rfl (hb hby at_296) rfl rfl k) ?_
  refine own_go (fun _ k => XS.iload X73.here hx rfl (hb hby at_297) rfl k) ?_
  refine own_go (fun _ k => XS.aload X73.here hx rfl (hb hby at_299) rfl rfl k) ?_
  refine own_go (fun _ k => XS.iload X73.here hx rfl (hb hby at_301) rfl k) ?_
  refine own_go (fun _ k => XS.iload X73.here hx rfl (hb hby at_303) rfl k) ?_
  refine own_go (fun _ k => XS.iload X73.here hx rfl (hb hby at_305) rfl k) ?_
  show own_Go p e below s _ _ _ (T73.setTop (mkF m 307 #[iv p1, iv p2, iv p3, iv p4, iv p5, iv p6, iv nn, iv sv0, iv sv1, iv sv2, iv sp, rv ls, iv c12, iv c13, iv c14, .unset, .unset, .unset] [(.int p6), (.int c14), (.int c13), (.ref ls), (.int p5), (.ref b73), (.ref b73)]))
  obtain ⟨v87, T87, L87, X87, hQ87, st87⟩ := own_callI (y := (⟨"com/example/nudo/nudo/LoadingResult", "<init>", "(ILjava/util/List;III)V"⟩ : MethodName)) X73 hx hZ hown (ow30 hw) (ow31 hw) (ow29 hw) (ow32 hw) (rm_lrinit2 l Z a0 hw oDE oDV [] b73 p5 ls c13 c14 p6 mc b k el1 x0 p4 pa0 kp0 el2 x1 p4 pa1 kp1 h73 O0 A73 f79 f80 f81 f82 f83 f84 f85 f86 fp0 fp1 fp2 fp3 fp4 (fp6.keep K1) (fp7.keep K1 (ninS ne65 (ninS ne66 nin0))) (fp8.keep K1 (ninS ne65 (ninS ne66 nin0))) (fp9.keep K1 (ninS ne65 (ninS ne66 nin0))) (fp10.keep K1 (ninS ne65 (ninS ne66 nin0))) (fp11.keep K1 (ninS ne65 (ninS ne66 nin0))) (fp12.keep K1 (ninS ne67 (ninS ne68 nin0))) (fp13.keep K1) (fp14.keep K1 (ninS ne69 (ninS ne70 nin0))) (fp15.keep K1 (ninS ne69 (ninS ne70 nin0))) (fp16.keep K1 (ninS ne69 (ninS ne70 nin0))) (fp17.keep K1 (ninS ne69 (ninS ne70 nin0))) (fp18.keep K1 (ninS ne69 (ninS ne70 nin0))) (fp19.keep K1 (ninS ne71 (ninS ne72 nin0))) big76) 1 7 12 rfl (by show _ ≤ 48; omega) (by show _ ≤ 256; omega) e73 (g := (mkF m 307 #[iv p1, iv p2, iv p3, iv p4, iv p5, iv p6, iv nn, iv sv0, iv sv1, iv sv2, iv sp, rv ls, iv c12, iv c13, iv c14, .unset, .unset, .unset] [(.int p6), (.int c14), (.int c13), (.ref ls), (.int p5), (.ref b73), (.ref b73)])) rfl (by rw [hml]; rfl) b73 [(.int p5), (.ref ls), (.int c13), (.int c14), (.int p6)] [(.ref b73)] (lenOf own_pd_13 rfl) rfl rfl (hb hby at_307)
  obtain ⟨w88, w89, rfl, Nc96, Kc95, f90, f91, f92, f93, f94⟩ := hQ87
  refine own_go st87 ?_
  clear st87 X73 e73
  replace N0 := Fr.app N0 Nc96
  clear Nc96
  replace fp0 := fp0.keep Kc95
  replace fp1 := fp1.keep Kc95 (ninS ne74 nin0)
  replace fp2 := fp2.keep Kc95 (ninS ne74 nin0)
  replace fp3 := fp3.keep Kc95 (ninS ne74 nin0)
  replace fp4 := fp4.keep Kc95 (ninS ne75 nin0)
  replace A73 := A73.keep Kc95
  clear f79
  clear f80
  clear f81
  clear f82
  clear f83
  clear f84
  clear f85
  clear f86
  replace O0 := own_oldKeep O0 Kc95 (allS big76 all0)
  replace K0 := K0.trans Kc95 (allS (Or.inr sz77) all0)
  replace K1 := K1.trans Kc95 (allS (Or.inr sz78) all0)
  clear Kc95
  refine own_go (fun _ k => XS.astore X87.here hx rfl (hb hby at_310) rfl rfl (l' := #[iv p1, iv p2, iv p3, iv p4, iv p5, iv p6, iv nn, iv sv0, iv sv1, iv sv2, iv sp, rv ls, iv c12, iv c13, iv c14, rv b73, .unset, .unset]) rfl k) ?_
  refine own_go (fun _ k => XS.aload X87.here hx rfl (hb hby at_312) rfl rfl k) ?_
  obtain ⟨v97, T97, L97, X97, hQ97, st97⟩ := own_callV (y := (⟨"com/example/nudo/nudo/LoadingResult", "vehiclesExited", "()I"⟩ : MethodName)) (z := (⟨"com/example/nudo/nudo/LoadingResult", "vehiclesExited", "()I"⟩ : MethodName)) X87 hx hZ hown (ow100 hw) (ow101 hw) (notFace_of_selects (args := #[]) (mvT hZ (ow103 hw))) (ow103 hw) (ow102 hw) (ow29 hw) (ow104 hw) (rm_lrv_2 l Z a0 hw oDE oDV [] b73 w88 w89 x0 x1 c13 c14 T87.heap O0 f91 f94 f92 f93) 0 0 0 (by show _ ≤ 48; omega) (by show _ ≤ 256; omega) (rfl : T87.heap = T87.heap) f90 (g := (mkF m 314 #[iv p1, iv p2, iv p3, iv p4, iv p5, iv p6, iv nn, iv sv0, iv sv1, iv sv2, iv sp, rv ls, iv c12, iv c13, iv c14, rv b73, .unset, .unset] [(.ref b73)])) rfl (by rw [hml]; rfl) [] [] (lenOf own_pd_9 rfl) rfl rfl (hb hby at_314)
  obtain ⟨rfl, Nc99, Kc98⟩ := hQ97
  refine own_go st97 ?_
  clear st97 X87
  replace N0 := Fr.app N0 Nc99
  clear Nc99
  refine own_go (fun _ k => XS.istore X97.here hx rfl (hb hby at_317) rfl (l' := #[iv p1, iv p2, iv p3, iv p4, iv p5, iv p6, iv nn, iv sv0, iv sv1, iv sv2, iv sp, rv ls, iv c12, iv c13, iv c14, rv b73, iv (((2 : Int32) - c13) - c14), .unset]) rfl k) ?_
  refine own_go (fun _ k => XS.iconst X97.here hx rfl (hb hby at_319) k) ?_
  refine own_go (fun _ k => XS.istore X97.here hx rfl (hb hby at_320) rfl (l' := #[iv p1, iv p2, iv p3, iv p4, iv p5, iv p6, iv nn, iv sv0, iv sv1, iv sv2, iv sp, rv ls, iv c12, iv c13, iv c14, rv b73, iv (((2 : Int32) - c13) - c14), iv (0 : Int32)]) rfl k) ?_
  show own_Go p e below s _ _ _ (T97.setTop (mkF m 322 #[iv p1, iv p2, iv p3, iv p4, iv p5, iv p6, iv nn, iv sv0, iv sv1, iv sv2, iv sp, rv ls, iv c12, iv c13, iv c14, rv b73, iv (((2 : Int32) - c13) - c14), iv (0 : Int32)] []))
  refine own_go (fun _ k => XS.iload X97.here hx rfl (hb hby at_322) rfl k) ?_
  refine own_go (fun _ k => XS.ifNo X97.here hx rfl (hb hby at_324) rfl ((if0 _ _).trans (tlt hn0).2.2.2) k) ?_
  refine own_go (fun _ k => XS.aload X97.here hx rfl (hb hby at_327) rfl rfl k) ?_
  refine own_go (fun _ k => XS.iconst X97.here hx rfl (hb hby at_329) k) ?_
  obtain ⟨v100, T100, L100, X100, hQ100, st100⟩ := own_callV (y := (⟨"com/example/nudo/nudo/LoadingResult", "exited", "(I)Z"⟩ : MethodName)) (z := (⟨"com/example/nudo/nudo/LoadingResult", "exited", "(I)Z"⟩ : MethodName)) X97 hx hZ hown (ow218 hw) (ow219 hw) (notFace_of_selects (args := #[]) (mvT hZ (ow221 hw))) (ow221 hw) (ow220 hw) (ow29 hw) (ow222 hw) (rm_lrx_2_0 l Z a0 hw oDE oDV [] b73 w88 w89 x0 x1 T87.heap O0 f91 f94) 0 0 0 (by show _ ≤ 48; omega) (by show _ ≤ 256; omega) Kc98 f90 (g := (mkF m 330 #[iv p1, iv p2, iv p3, iv p4, iv p5, iv p6, iv nn, iv sv0, iv sv1, iv sv2, iv sp, rv ls, iv c12, iv c13, iv c14, rv b73, iv (((2 : Int32) - c13) - c14), iv (0 : Int32)] [(.int (0 : Int32)), (.ref b73)])) rfl (by rw [hml]; rfl) [(.int (0 : Int32))] [] (lenOf own_pd_14 rfl) rfl rfl (hb hby at_330)
  rcases hQ100 with hQ100 | hQ100
  · obtain ⟨rfl, Nc103, hp101, Kc102⟩ := hQ100
    refine own_go st100 ?_
    clear st100 X97 Kc98
    replace N0 := Fr.app N0 Nc103
    clear Nc103
    show own_Go p e below s _ _ _ (T100.setTop (mkF m 333 #[iv p1, iv p2, iv p3, iv p4, iv p5, iv p6, iv nn, iv sv0, iv sv1, iv sv2, iv sp, rv ls, iv c12, iv c13, iv c14, rv b73, iv (((2 : Int32) - c13) - c14), iv (0 : Int32)] [(.int (0 : Int32))]))
    refine own_go (fun _ k => XS.ifYes X100.here hx rfl (pc0 := 333) (pc' := 339) rfl (hb hby at_333) rfl ((if0 _ _).trans (teq (by decide : (0 : Int32) = (0 : Int32))).1) (by decide) (by decide) k) ?_
    refine own_go (fun _ k => XS.iload X100.here hx rfl (hb hby at_339) rfl k) ?_
    refine own_go (fun _ k => XS.iconst X100.here hx rfl (hb hby at_341) k) ?_
    refine own_go (fun _ k => XS.icmpNo X100.here hx rfl (hb hby at_342) rfl (tlt hn1).2.2.2 k) ?_
    refine own_go (fun _ k => XS.aload X100.here hx rfl (hb hby at_345) rfl rfl k) ?_
    refine own_go (fun _ k => XS.iconst X100.here hx rfl (hb hby at_347) k) ?_
    obtain ⟨v104, T104, L104, X104, hQ104, st104⟩ := own_callV (y := (⟨"com/example/nudo/nudo/LoadingResult", "exited", "(I)Z"⟩ : MethodName)) (z := (⟨"com/example/nudo/nudo/LoadingResult", "exited", "(I)Z"⟩ : MethodName)) X100 hx hZ hown (ow218 hw) (ow219 hw) (notFace_of_selects (args := #[]) (mvT hZ (ow221 hw))) (ow221 hw) (ow220 hw) (ow29 hw) (ow222 hw) (rm_lrx_2_1 l Z a0 hw oDE oDV [] b73 w88 w89 x0 x1 T87.heap O0 f91 f94) 0 0 0 (by show _ ≤ 48; omega) (by show _ ≤ 256; omega) Kc102 f90 (g := (mkF m 348 #[iv p1, iv p2, iv p3, iv p4, iv p5, iv p6, iv nn, iv sv0, iv sv1, iv sv2, iv sp, rv ls, iv c12, iv c13, iv c14, rv b73, iv (((2 : Int32) - c13) - c14), iv (0 : Int32)] [(.int (1 : Int32)), (.ref b73)])) rfl (by rw [hml]; rfl) [(.int (1 : Int32))] [] (lenOf own_pd_14 rfl) rfl rfl (hb hby at_348)
    rcases hQ104 with hQ104 | hQ104
    · obtain ⟨rfl, Nc107, hp105, Kc106⟩ := hQ104
      refine own_go st104 ?_
      clear st104 X100 Kc102
      replace N0 := Fr.app N0 Nc107
      clear Nc107
      show own_Go p e below s _ _ _ (T104.setTop (mkF m 351 #[iv p1, iv p2, iv p3, iv p4, iv p5, iv p6, iv nn, iv sv0, iv sv1, iv sv2, iv sp, rv ls, iv c12, iv c13, iv c14, rv b73, iv (((2 : Int32) - c13) - c14), iv (0 : Int32)] [(.int (0 : Int32))]))
      refine own_go (fun _ k => XS.ifYes X104.here hx rfl (pc0 := 351) (pc' := 357) rfl (hb hby at_351) rfl ((if0 _ _).trans (teq (by decide : (0 : Int32) = (0 : Int32))).1) (by decide) (by decide) k) ?_
      refine own_go (fun _ k => XS.iload X104.here hx rfl (hb hby at_357) rfl k) ?_
      refine own_go (fun _ k => XS.iconst X104.here hx rfl (hb hby at_359) k) ?_
      refine own_go (fun _ k => XS.icmpYes X104.here hx rfl (pc0 := 360) (pc' := 375) rfl (hb hby at_360) rfl (flt hm2).2.2.2 (by decide) (by decide) k) ?_
      refine own_go (fun _ k => XS.iload X104.here hx rfl (hb hby at_375) rfl k) ?_
      refine own_go (fun _ k => XS.iload X104.here hx rfl (hb hby at_377) rfl k) ?_
      refine own_go (fun _ k => XS.icmpNo X104.here hx rfl (hb hby at_379) rfl (teq (own_Rv hR (by simp))).2 k) ?_
      show own_Go p e below s _ _ _ (T104.setTop (mkF m 382 #[iv p1, iv p2, iv p3, iv p4, iv p5, iv p6, iv nn, iv sv0, iv sv1, iv sv2, iv sp, rv ls, iv c12, iv c13, iv c14, rv b73, iv (((2 : Int32) - c13) - c14), iv (0 : Int32)] []))
      refine own_go (fun _ k => XS.iload X104.here hx rfl (hb hby at_382) rfl k) ?_
      refine own_go (fun _ k => XS.iload X104.here hx rfl (hb hby at_384) rfl k) ?_
      refine own_go (fun _ k => XS.icmpNo X104.here hx rfl (hb hby at_386) rfl (teq ((own_Rv hR (by simp)).trans (own_Rs hR (by simp [List.filter, hp101, hp105])))).2 k) ?_
      refine own_go (fun _ k => XS.iconst X104.here hx rfl (hb hby at_389) k) ?_
      refine own_go (fun _ k => XS.goto X104.here hx rfl (pc0 := 390) (pc' := 394) rfl (hb hby at_390) (by decide) (by decide) k) ?_
      show own_Go p e below s _ _ _ (T104.setTop (mkF m 394 #[iv p1, iv p2, iv p3, iv p4, iv p5, iv p6, iv nn, iv sv0, iv sv1, iv sv2, iv sp, rv ls, iv c12, iv c13, iv c14, rv b73, iv (((2 : Int32) - c13) - c14), iv (0 : Int32)] [(.int (1 : Int32))]))
      refine own_retN X104 hx hlk Kc106 (t := .boolean) hret (by simp) (hb hby at_394) (by show _ ≤ 48; omega) (by show _ ≤ 256; omega) ?_
      exact ⟨rfl, N0, K0⟩
    · obtain ⟨rfl, Nc110, hp108, Kc109⟩ := hQ104
      refine own_go st104 ?_
      clear st104 X100 Kc102
      replace N0 := Fr.app N0 Nc110
      clear Nc110
      show own_Go p e below s _ _ _ (T104.setTop (mkF m 351 #[iv p1, iv p2, iv p3, iv p4, iv p5, iv p6, iv nn, iv sv0, iv sv1, iv sv2, iv sp, rv ls, iv c12, iv c13, iv c14, rv b73, iv (((2 : Int32) - c13) - c14), iv (0 : Int32)] [(.int (1 : Int32))]))
      refine own_go (fun _ k => XS.ifNo X104.here hx rfl (hb hby at_351) rfl ((if0 _ _).trans (feq (by decide : ¬ ((1 : Int32) = (0 : Int32)))).1) k) ?_
      refine own_go (fun _ k => XS.iinc X104.here hx rfl (hb hby at_354) rfl (l' := #[iv p1, iv p2, iv p3, iv p4, iv p5, iv p6, iv nn, iv sv0, iv sv1, iv sv2, iv sp, rv ls, iv c12, iv c13, iv c14, rv b73, iv (((2 : Int32) - c13) - c14), iv (1 : Int32)]) rfl k) ?_
      refine own_go (fun _ k => XS.iload X104.here hx rfl (hb hby at_357) rfl k) ?_
      refine own_go (fun _ k => XS.iconst X104.here hx rfl (hb hby at_359) k) ?_
      refine own_go (fun _ k => XS.icmpYes X104.here hx rfl (pc0 := 360) (pc' := 375) rfl (hb hby at_360) rfl (flt hm2).2.2.2 (by decide) (by decide) k) ?_
      refine own_go (fun _ k => XS.iload X104.here hx rfl (hb hby at_375) rfl k) ?_
      refine own_go (fun _ k => XS.iload X104.here hx rfl (hb hby at_377) rfl k) ?_
      show own_Go p e below s _ _ _ (T104.setTop (mkF m 379 #[iv p1, iv p2, iv p3, iv p4, iv p5, iv p6, iv nn, iv sv0, iv sv1, iv sv2, iv sp, rv ls, iv c12, iv c13, iv c14, rv b73, iv (((2 : Int32) - c13) - c14), iv (1 : Int32)] [(.int c12), (.int (((2 : Int32) - c13) - c14))]))
      refine own_go (fun _ k => XS.icmpNo X104.here hx rfl (hb hby at_379) rfl (teq (own_Rv hR (by simp))).2 k) ?_
      refine own_go (fun _ k => XS.iload X104.here hx rfl (hb hby at_382) rfl k) ?_
      refine own_go (fun _ k => XS.iload X104.here hx rfl (hb hby at_384) rfl k) ?_
      refine own_go (fun _ k => XS.icmpNo X104.here hx rfl (hb hby at_386) rfl (teq ((own_Rv hR (by simp)).trans (own_Rs hR (by simp [List.filter, hp101, hp108])))).2 k) ?_
      refine own_go (fun _ k => XS.iconst X104.here hx rfl (hb hby at_389) k) ?_
      refine own_go (fun _ k => XS.goto X104.here hx rfl (pc0 := 390) (pc' := 394) rfl (hb hby at_390) (by decide) (by decide) k) ?_
      show own_Go p e below s _ _ _ (T104.setTop (mkF m 394 #[iv p1, iv p2, iv p3, iv p4, iv p5, iv p6, iv nn, iv sv0, iv sv1, iv sv2, iv sp, rv ls, iv c12, iv c13, iv c14, rv b73, iv (((2 : Int32) - c13) - c14), iv (1 : Int32)] [(.int (1 : Int32))]))
      refine own_retN X104 hx hlk Kc109 (t := .boolean) hret (by simp) (hb hby at_394) (by show _ ≤ 48; omega) (by show _ ≤ 256; omega) ?_
      exact ⟨rfl, N0, K0⟩
  · obtain ⟨rfl, Nc113, hp111, Kc112⟩ := hQ100
    refine own_go st100 ?_
    clear st100 X97 Kc98
    replace N0 := Fr.app N0 Nc113
    clear Nc113
    show own_Go p e below s _ _ _ (T100.setTop (mkF m 333 #[iv p1, iv p2, iv p3, iv p4, iv p5, iv p6, iv nn, iv sv0, iv sv1, iv sv2, iv sp, rv ls, iv c12, iv c13, iv c14, rv b73, iv (((2 : Int32) - c13) - c14), iv (0 : Int32)] [(.int (1 : Int32))]))
    refine own_go (fun _ k => XS.ifNo X100.here hx rfl (hb hby at_333) rfl ((if0 _ _).trans (feq (by decide : ¬ ((1 : Int32) = (0 : Int32)))).1) k) ?_
    refine own_go (fun _ k => XS.iinc X100.here hx rfl (hb hby at_336) rfl (l' := #[iv p1, iv p2, iv p3, iv p4, iv p5, iv p6, iv nn, iv sv0, iv sv1, iv sv2, iv sp, rv ls, iv c12, iv c13, iv c14, rv b73, iv (((2 : Int32) - c13) - c14), iv (1 : Int32)]) rfl k) ?_
    refine own_go (fun _ k => XS.iload X100.here hx rfl (hb hby at_339) rfl k) ?_
    refine own_go (fun _ k => XS.iconst X100.here hx rfl (hb hby at_341) k) ?_
    refine own_go (fun _ k => XS.icmpNo X100.here hx rfl (hb hby at_342) rfl (tlt hn1).2.2.2 k) ?_
    refine own_go (fun _ k => XS.aload X100.here hx rfl (hb hby at_345) rfl rfl k) ?_
    refine own_go (fun _ k => XS.iconst X100.here hx rfl (hb hby at_347) k) ?_
    show own_Go p e below s _ _ _ (T100.setTop (mkF m 348 #[iv p1, iv p2, iv p3, iv p4, iv p5, iv p6, iv nn, iv sv0, iv sv1, iv sv2, iv sp, rv ls, iv c12, iv c13, iv c14, rv b73, iv (((2 : Int32) - c13) - c14), iv (1 : Int32)] [(.int (1 : Int32)), (.ref b73)]))
    obtain ⟨v114, T114, L114, X114, hQ114, st114⟩ := own_callV (y := (⟨"com/example/nudo/nudo/LoadingResult", "exited", "(I)Z"⟩ : MethodName)) (z := (⟨"com/example/nudo/nudo/LoadingResult", "exited", "(I)Z"⟩ : MethodName)) X100 hx hZ hown (ow218 hw) (ow219 hw) (notFace_of_selects (args := #[]) (mvT hZ (ow221 hw))) (ow221 hw) (ow220 hw) (ow29 hw) (ow222 hw) (rm_lrx_2_1 l Z a0 hw oDE oDV [] b73 w88 w89 x0 x1 T87.heap O0 f91 f94) 0 0 0 (by show _ ≤ 48; omega) (by show _ ≤ 256; omega) Kc112 f90 (g := (mkF m 348 #[iv p1, iv p2, iv p3, iv p4, iv p5, iv p6, iv nn, iv sv0, iv sv1, iv sv2, iv sp, rv ls, iv c12, iv c13, iv c14, rv b73, iv (((2 : Int32) - c13) - c14), iv (1 : Int32)] [(.int (1 : Int32)), (.ref b73)])) rfl (by rw [hml]; rfl) [(.int (1 : Int32))] [] (lenOf own_pd_14 rfl) rfl rfl (hb hby at_348)
    rcases hQ114 with hQ114 | hQ114
    · obtain ⟨rfl, Nc117, hp115, Kc116⟩ := hQ114
      refine own_go st114 ?_
      clear st114 X100 Kc112
      replace N0 := Fr.app N0 Nc117
      clear Nc117
      show own_Go p e below s _ _ _ (T114.setTop (mkF m 351 #[iv p1, iv p2, iv p3, iv p4, iv p5, iv p6, iv nn, iv sv0, iv sv1, iv sv2, iv sp, rv ls, iv c12, iv c13, iv c14, rv b73, iv (((2 : Int32) - c13) - c14), iv (1 : Int32)] [(.int (0 : Int32))]))
      refine own_go (fun _ k => XS.ifYes X114.here hx rfl (pc0 := 351) (pc' := 357) rfl (hb hby at_351) rfl ((if0 _ _).trans (teq (by decide : (0 : Int32) = (0 : Int32))).1) (by decide) (by decide) k) ?_
      refine own_go (fun _ k => XS.iload X114.here hx rfl (hb hby at_357) rfl k) ?_
      refine own_go (fun _ k => XS.iconst X114.here hx rfl (hb hby at_359) k) ?_
      refine own_go (fun _ k => XS.icmpYes X114.here hx rfl (pc0 := 360) (pc' := 375) rfl (hb hby at_360) rfl (flt hm2).2.2.2 (by decide) (by decide) k) ?_
      refine own_go (fun _ k => XS.iload X114.here hx rfl (hb hby at_375) rfl k) ?_
      refine own_go (fun _ k => XS.iload X114.here hx rfl (hb hby at_377) rfl k) ?_
      refine own_go (fun _ k => XS.icmpNo X114.here hx rfl (hb hby at_379) rfl (teq (own_Rv hR (by simp))).2 k) ?_
      show own_Go p e below s _ _ _ (T114.setTop (mkF m 382 #[iv p1, iv p2, iv p3, iv p4, iv p5, iv p6, iv nn, iv sv0, iv sv1, iv sv2, iv sp, rv ls, iv c12, iv c13, iv c14, rv b73, iv (((2 : Int32) - c13) - c14), iv (1 : Int32)] []))
      refine own_go (fun _ k => XS.iload X114.here hx rfl (hb hby at_382) rfl k) ?_
      refine own_go (fun _ k => XS.iload X114.here hx rfl (hb hby at_384) rfl k) ?_
      refine own_go (fun _ k => XS.icmpNo X114.here hx rfl (hb hby at_386) rfl (teq ((own_Rv hR (by simp)).trans (own_Rs hR (by simp [List.filter, hp111, hp115])))).2 k) ?_
      refine own_go (fun _ k => XS.iconst X114.here hx rfl (hb hby at_389) k) ?_
      refine own_go (fun _ k => XS.goto X114.here hx rfl (pc0 := 390) (pc' := 394) rfl (hb hby at_390) (by decide) (by decide) k) ?_
      show own_Go p e below s _ _ _ (T114.setTop (mkF m 394 #[iv p1, iv p2, iv p3, iv p4, iv p5, iv p6, iv nn, iv sv0, iv sv1, iv sv2, iv sp, rv ls, iv c12, iv c13, iv c14, rv b73, iv (((2 : Int32) - c13) - c14), iv (1 : Int32)] [(.int (1 : Int32))]))
      refine own_retN X114 hx hlk Kc116 (t := .boolean) hret (by simp) (hb hby at_394) (by show _ ≤ 48; omega) (by show _ ≤ 256; omega) ?_
      exact ⟨rfl, N0, K0⟩
    · obtain ⟨rfl, Nc120, hp118, Kc119⟩ := hQ114
      refine own_go st114 ?_
      clear st114 X100 Kc112
      replace N0 := Fr.app N0 Nc120
      clear Nc120
      show own_Go p e below s _ _ _ (T114.setTop (mkF m 351 #[iv p1, iv p2, iv p3, iv p4, iv p5, iv p6, iv nn, iv sv0, iv sv1, iv sv2, iv sp, rv ls, iv c12, iv c13, iv c14, rv b73, iv (((2 : Int32) - c13) - c14), iv (1 : Int32)] [(.int (1 : Int32))]))
      refine own_go (fun _ k => XS.ifNo X114.here hx rfl (hb hby at_351) rfl ((if0 _ _).trans (feq (by decide : ¬ ((1 : Int32) = (0 : Int32)))).1) k) ?_
      refine own_go (fun _ k => XS.iinc X114.here hx rfl (hb hby at_354) rfl (l' := #[iv p1, iv p2, iv p3, iv p4, iv p5, iv p6, iv nn, iv sv0, iv sv1, iv sv2, iv sp, rv ls, iv c12, iv c13, iv c14, rv b73, iv (((2 : Int32) - c13) - c14), iv (2 : Int32)]) rfl k) ?_
      refine own_go (fun _ k => XS.iload X114.here hx rfl (hb hby at_357) rfl k) ?_
      refine own_go (fun _ k => XS.iconst X114.here hx rfl (hb hby at_359) k) ?_
      refine own_go (fun _ k => XS.icmpYes X114.here hx rfl (pc0 := 360) (pc' := 375) rfl (hb hby at_360) rfl (flt hm2).2.2.2 (by decide) (by decide) k) ?_
      refine own_go (fun _ k => XS.iload X114.here hx rfl (hb hby at_375) rfl k) ?_
      refine own_go (fun _ k => XS.iload X114.here hx rfl (hb hby at_377) rfl k) ?_
      show own_Go p e below s _ _ _ (T114.setTop (mkF m 379 #[iv p1, iv p2, iv p3, iv p4, iv p5, iv p6, iv nn, iv sv0, iv sv1, iv sv2, iv sp, rv ls, iv c12, iv c13, iv c14, rv b73, iv (((2 : Int32) - c13) - c14), iv (2 : Int32)] [(.int c12), (.int (((2 : Int32) - c13) - c14))]))
      refine own_go (fun _ k => XS.icmpNo X114.here hx rfl (hb hby at_379) rfl (teq (own_Rv hR (by simp))).2 k) ?_
      refine own_go (fun _ k => XS.iload X114.here hx rfl (hb hby at_382) rfl k) ?_
      refine own_go (fun _ k => XS.iload X114.here hx rfl (hb hby at_384) rfl k) ?_
      refine own_go (fun _ k => XS.icmpNo X114.here hx rfl (hb hby at_386) rfl (teq ((own_Rv hR (by simp)).trans (own_Rs hR (by simp [List.filter, hp111, hp118])))).2 k) ?_
      refine own_go (fun _ k => XS.iconst X114.here hx rfl (hb hby at_389) k) ?_
      refine own_go (fun _ k => XS.goto X114.here hx rfl (pc0 := 390) (pc' := 394) rfl (hb hby at_390) (by decide) (by decide) k) ?_
      show own_Go p e below s _ _ _ (T114.setTop (mkF m 394 #[iv p1, iv p2, iv p3, iv p4, iv p5, iv p6, iv nn, iv sv0, iv sv1, iv sv2, iv sp, rv ls, iv c12, iv c13, iv c14, rv b73, iv (((2 : Int32) - c13) - c14), iv (2 : Int32)] [(.int (1 : Int32))]))
      refine own_retN X114 hx hlk Kc119 (t := .boolean) hret (by simp) (hb hby at_394) (by show _ ≤ 48; omega) (by show _ ≤ 256; omega) ?_
      exact ⟨rfl, N0, K0⟩
set_option maxRecDepth 65536 in
set_option maxHeartbeats 40000000 in
theorem sg_s293_3 {l : Launch} {Z : State} {a0 : Array Value} (hw : ∀ d ∈ tables_1, d.before a0 Z = true) {wd : Addr} {kd : ClassId} (oDE : Sta Z Z.heap "java/util/ArrayList" "DEFAULTCAPACITY_EMPTY_ELEMENTDATA" "[Ljava/lang/Object;" (.ref wd)) (oDV : Arv Z Z.heap wd kd (.object "java/lang/Object") (0 : Int32) [] .null) {p : Program} {e : Env} {s : State} {m : MethodId} {args : Array Value} {below : List Frame} {meth : Method} {c : Code} {T : State} {locs : List Loc} {cells slots : Nat} (p1 : Int32) (p2 : Int32) (p3 : Int32) (p4 : Int32) (p5 : Int32) (p6 : Int32) (nn : Int32) (sv0 : Int32) (sv1 : Int32) (sv2 : Int32) (sp : Int32) (ls : Addr) (c12 : Int32) (c13 : Int32) (c14 : Int32) (mc : Int32) (b : Addr) (k : ClassId) (el1 : Addr) (x0 : Int32) (pa0 : Addr) (kp0 : ClassId) (el2 : Addr) (x1 : Int32) (pa1 : Addr) (kp1 : ClassId) (el3 : Addr) (x2 : Int32) (pa2 : Addr) (kp2 : ClassId) (h0 hs1 : Heap)
    (X0 : Stand p l e room_1 s m args below meth c T locs cells slots) (hx : p.tables.exec = Jvm.exec) (hby : c.code = code) (hml : c.maxLocals = 18) (hret : meth.sig.returnType = some .boolean) (hlk : meth.locks = false) (hZ : Z.Warmed39 s.vm) (hown : s.vm.findClass "com/example/nudo/nudo/LoadingResultVehiclesExitedPinLaw" = some m.cls) (hnm : meth.name = "law") (e0 : T.heap = hs1) (N0 : Fr Z.heap.size locs) (O0 : Ext Z.heap hs1) (K0 : Keep h0 hs1 []) (fp0 : Exa Z hs1 ls "java/util/ArrayList") (fp1 : Fld Z hs1 ls "java/util/ArrayList" "size" "I" (.int (3 : Int32))) (fp2 : Fld Z hs1 ls "java/util/ArrayList" "elementData" "[Ljava/lang/Object;" (.ref b)) (fp3 : Fld Z hs1 ls "java/util/AbstractList" "modCount" "I" (.int mc)) (fp4 : Arv Z hs1 b k (.object "java/lang/Object") (10 : Int32) [(.ref el1), (.ref el2), (.ref el3), .null, .null, .null, .null, .null, .null, .null] .null) (fp5 : Ovr Z k "java/lang/Object") (fp6 : Exa Z hs1 el1 "com/example/nudo/nudo/Vehicle") (fp7 : Fld Z hs1 el1 "com/example/nudo/nudo/Vehicle" "position" "I" (.int (-1 : Int32))) (fp8 : Fld Z hs1 el1 "com/example/nudo/nudo/Vehicle" "exitStep" "I" (.int x0)) (fp9 : Fld Z hs1 el1 "com/example/nudo/nudo/Vehicle" "trip" "I" (.int (0 : Int32))) (fp10 : Fld Z hs1 el1 "com/example/nudo/nudo/Vehicle" "path" "[Lcom/example/nudo/nudo/CellLink;" (.ref pa0)) (fp11 : Fld Z hs1 el1 "com/example/nudo/nudo/Vehicle" "departureStep" "I" (.int p4)) (fp12 : Arv Z hs1 pa0 kp0 (.object "com/example/nudo/nudo/CellLink") (0 : Int32) [] .null) (fp13 : Exa Z hs1 el2 "com/example/nudo/nudo/Vehicle") (fp14 : Fld Z hs1 el2 "com/example/nudo/nudo/Vehicle" "position" "I" (.int (-1 : Int32))) (fp15 : Fld Z hs1 el2 "com/example/nudo/nudo/Vehicle" "exitStep" "I" (.int x1)) (fp16 : Fld Z hs1 el2 "com/example/nudo/nudo/Vehicle" "trip" "I" (.int (1 : Int32))) (fp17 : Fld Z hs1 el2 "com/example/nudo/nudo/Vehicle" "path" "[Lcom/example/nudo/nudo/CellLink;" (.ref pa1)) (fp18 : Fld Z hs1 el2 "com/example/nudo/nudo/Vehicle" "departureStep" "I" (.int p4)) (fp19 : Arv Z hs1 pa1 kp1 (.object "com/example/nudo/nudo/CellLink") (0 : Int32) [] .null) (fp20 : Exa Z hs1 el3 "com/example/nudo/nudo/Vehicle") (fp21 : Fld Z hs1 el3 "com/example/nudo/nudo/Vehicle" "position" "I" (.int (-1 : Int32))) (fp22 : Fld Z hs1 el3 "com/example/nudo/nudo/Vehicle" "exitStep" "I" (.int x2)) (fp23 : Fld Z hs1 el3 "com/example/nudo/nudo/Vehicle" "trip" "I" (.int (2 : Int32))) (fp24 : Fld Z hs1 el3 "com/example/nudo/nudo/Vehicle" "path" "[Lcom/example/nudo/nudo/CellLink;" (.ref pa2)) (fp25 : Fld Z hs1 el3 "com/example/nudo/nudo/Vehicle" "departureStep" "I" (.int p4)) (fp26 : Arv Z hs1 pa2 kp2 (.object "com/example/nudo/nudo/CellLink") (0 : Int32) [] .null) (big_ls : Z.heap.size ≤ ls) (sz_ls : h0.size ≤ ls) (big_b : Z.heap.size ≤ b) (sz_b : h0.size ≤ b) (hn0 : (0 : Int32) < nn) (hn1 : (1 : Int32) < nn) (hn2 : (2 : Int32) < nn) (hR : own_R [x0, x1, x2] c12 c13 c14) (hcells : cells ≤ 11) (hslots : slots ≤ 43) :
    own_Go p e below s (Q_law Z wd kd p1 p2 p3 p4 p5 p6 h0) room_1.cells room_1.slots (T.setTop (mkF m 293 #[iv p1, iv p2, iv p3, iv p4, iv p5, iv p6, iv nn, iv sv0, iv sv1, iv sv2, iv sp, rv ls, iv c12, iv c13, iv c14, .unset, .unset, .unset] [])) := by
  have K1 := Keep.refl hs1 [ls, b]
  have ne121 : el1 ≠ ls := (ne_exa fp6 fp0 (by decide))
  have ne122 : el1 ≠ b := (Exa.neArv fp6 fp4 (ow110 hw))
  have ne123 : pa0 ≠ ls := (Ne.symm (Exa.neArv fp0 fp12 (ow2 hw)))
  have ne124 : pa0 ≠ b := (own_neTy fp12 fp4 (by decide))
  have ne125 : el2 ≠ ls := (ne_exa fp13 fp0 (by decide))
  have ne126 : el2 ≠ b := (Exa.neArv fp13 fp4 (ow110 hw))
  have ne127 : pa1 ≠ ls := (Ne.symm (Exa.neArv fp0 fp19 (ow2 hw)))
  have ne128 : pa1 ≠ b := (own_neTy fp19 fp4 (by decide))
  have ne129 : el3 ≠ ls := (ne_exa fp20 fp0 (by decide))
  have ne130 : el3 ≠ b := (Exa.neArv fp20 fp4 (ow110 hw))
  have ne131 : pa2 ≠ ls := (Ne.symm (Exa.neArv fp0 fp26 (ow2 hw)))
  have ne132 : pa2 ≠ b := (own_neTy fp26 fp4 (by decide))
  show own_Go p e below s _ _ _ (T.setTop (mkF m 293 #[iv p1, iv p2, iv p3, iv p4, iv p5, iv p6, iv nn, iv sv0, iv sv1, iv sv2, iv sp, rv ls, iv c12, iv c13, iv c14, .unset, .unset, .unset] []))
  obtain ⟨T133, h133, X133, e133, E133, A133, D133, -, st133⟩ := newO X0 hx hZ hown (ow27 hw) (ow28 hw) (ow29 hw) e0 (g := (mkF m 293 #[iv p1, iv p2, iv p3, iv p4, iv p5, iv p6, iv nn, iv sv0, iv sv1, iv sv2, iv sp, rv ls, iv c12, iv c13, iv c14, .unset, .unset, .unset] [])) rfl (hb hby at_293) (by show _ ≤ 48; omega) (by show _ ≤ 256; omega)
  obtain ⟨b133, g133⟩ : ∃ z, z = hs1.size := ⟨_, rfl⟩
  rw [← g133] at A133 D133 st133
  refine own_go st133 ?_
  clear st133 X0 e0
  have ge133 := Nat.le_of_eq g133.symm
  have ne134 : ls ≠ b133 := Nat.ne_of_lt (Nat.lt_of_lt_of_le fp0.lt ge133)
  have ne135 : b ≠ b133 := Nat.ne_of_lt (Nat.lt_of_lt_of_le fp4.lt ge133)
  have big136 : Z.heap.size ≤ b133 := Nat.le_trans O0.1 ge133
  have sz137 : h0.size ≤ b133 := Nat.le_trans K0.1 ge133
  have sz138 : hs1.size ≤ b133 := Nat.le_trans K1.1 ge133
  replace fp0 := fp0.ext E133
  replace fp1 := fp1.ext E133
  replace fp2 := fp2.ext E133
  replace fp3 := fp3.ext E133
  replace fp4 := fp4.ext E133
  replace O0 := own_oldExt O0 E133
  replace K0 := K0.ext E133
  replace K1 := K1.ext E133
  clear E133
  have f139 : Fld Z h133 b133 "com/example/nudo/nudo/LoadingResult" "timeStep" "I" (.int (0 : Int32)) := D133 (Or.inr (ow35 hw)) (ty := .int) own_fd0
  have f140 : Fld Z h133 b133 "com/example/nudo/nudo/LoadingResult" "departureSteps" "[I" .null := D133 (Or.inr (ow49 hw)) (ty := (.array .int)) own_fd4
  have f141 : Fld Z h133 b133 "com/example/nudo/nudo/LoadingResult" "exitSteps" "[I" .null := D133 (Or.inr (ow51 hw)) (ty := (.array .int)) own_fd4
  have f142 : Fld Z h133 b133 "com/example/nudo/nudo/LoadingResult" "freeFlowSteps" "[I" .null := D133 (Or.inr (ow53 hw)) (ty := (.array .int)) own_fd4
  have f143 : Fld Z h133 b133 "com/example/nudo/nudo/LoadingResult" "linkEntrySteps" "[[I" .null := D133 (Or.inr (ow57 hw)) (ty := (.array (.array .int))) own_fd6
  have f144 : Fld Z h133 b133 "com/example/nudo/nudo/LoadingResult" "endStep" "I" (.int (0 : Int32)) := D133 (Or.inr (ow95 hw)) (ty := .int) own_fd0
  have f145 : Fld Z h133 b133 "com/example/nudo/nudo/LoadingResult" "vehiclesWaiting" "I" (.int (0 : Int32)) := D133 (Or.inr (ow97 hw)) (ty := .int) own_fd0
  have f146 : Fld Z h133 b133 "com/example/nudo/nudo/LoadingResult" "vehiclesInNetwork" "I" (.int (0 : Int32)) := D133 (Or.inr (ow99 hw)) (ty := .int) own_fd0
  refine own_go (fun _ k => XS.dup X133.here hx rfl (hb hby at_296) rfl rfl k) ?_
  refine own_go (fun _ k => XS.iload X133.here hx rfl (hb hby at_297) rfl k) ?_
  refine own_go (fun _ k => XS.aload X133.here hx rfl (hb hby at_299) rfl rfl k) ?_
  refine own_go (fun _ k => XS.iload X133.here hx rfl (hb hby at_301) rfl k) ?_
  refine own_go (fun _ k => XS.iload X133.here hx rfl (hb hby at_303) rfl k) ?_
  refine own_go (fun _ k => XS.iload X133.here hx rfl (hb hby at_305) rfl k) ?_
  show own_Go p e below s _ _ _ (T133.setTop (mkF m 307 #[iv p1, iv p2, iv p3, iv p4, iv p5, iv p6, iv nn, iv sv0, iv sv1, iv sv2, iv sp, rv ls, iv c12, iv c13, iv c14, .unset, .unset, .unset] [(.int p6), (.int c14), (.int c13), (.ref ls), (.int p5), (.ref b133), (.ref b133)]))
  obtain ⟨v147, T147, L147, X147, hQ147, st147⟩ := own_callI (y := (⟨"com/example/nudo/nudo/LoadingResult", "<init>", "(ILjava/util/List;III)V"⟩ : MethodName)) X133 hx hZ hown (ow30 hw) (ow31 hw) (ow29 hw) (ow32 hw) (rm_lrinit3 l Z a0 hw oDE oDV [] b133 p5 ls c13 c14 p6 mc b k el1 x0 p4 pa0 kp0 el2 x1 p4 pa1 kp1 el3 x2 p4 pa2 kp2 h133 O0 A133 f139 f140 f141 f142 f143 f144 f145 f146 fp0 fp1 fp2 fp3 fp4 (fp6.keep K1) (fp7.keep K1 (ninS ne121 (ninS ne122 nin0))) (fp8.keep K1 (ninS ne121 (ninS ne122 nin0))) (fp9.keep K1 (ninS ne121 (ninS ne122 nin0))) (fp10.keep K1 (ninS ne121 (ninS ne122 nin0))) (fp11.keep K1 (ninS ne121 (ninS ne122 nin0))) (fp12.keep K1 (ninS ne123 (ninS ne124 nin0))) (fp13.keep K1) (fp14.keep K1 (ninS ne125 (ninS ne126 nin0))) (fp15.keep K1 (ninS ne125 (ninS ne126 nin0))) (fp16.keep K1 (ninS ne125 (ninS ne126 nin0))) (fp17.keep K1 (ninS ne125 (ninS ne126 nin0))) (fp18.keep K1 (ninS ne125 (ninS ne126 nin0))) (fp19.keep K1 (ninS ne127 (ninS ne128 nin0))) (fp20.keep K1) (fp21.keep K1 (ninS ne129 (ninS ne130 nin0))) (fp22.keep K1 (ninS ne129 (ninS ne130 nin0))) (fp23.keep K1 (ninS ne129 (ninS ne130 nin0))) (fp24.keep K1 (ninS ne129 (ninS ne130 nin0))) (fp25.keep K1 (ninS ne129 (ninS ne130 nin0))) (fp26.keep K1 (ninS ne131 (ninS ne132 nin0))) big136) 1 8 16 rfl (by show _ ≤ 48; omega) (by show _ ≤ 256; omega) e133 (g := (mkF m 307 #[iv p1, iv p2, iv p3, iv p4, iv p5, iv p6, iv nn, iv sv0, iv sv1, iv sv2, iv sp, rv ls, iv c12, iv c13, iv c14, .unset, .unset, .unset] [(.int p6), (.int c14), (.int c13), (.ref ls), (.int p5), (.ref b133), (.ref b133)])) rfl (by rw [hml]; rfl) b133 [(.int p5), (.ref ls), (.int c13), (.int c14), (.int p6)] [(.ref b133)] (lenOf own_pd_13 rfl) rfl rfl (hb hby at_307)
  obtain ⟨w148, w149, rfl, Nc156, Kc155, f150, f151, f152, f153, f154⟩ := hQ147
  refine own_go st147 ?_
  clear st147 X133 e133
  replace N0 := Fr.app N0 Nc156
  clear Nc156
  replace fp0 := fp0.keep Kc155
  replace fp1 := fp1.keep Kc155 (ninS ne134 nin0)
  replace fp2 := fp2.keep Kc155 (ninS ne134 nin0)
  replace fp3 := fp3.keep Kc155 (ninS ne134 nin0)
  replace fp4 := fp4.keep Kc155 (ninS ne135 nin0)
  replace A133 := A133.keep Kc155
  clear f139
  clear f140
  clear f141
  clear f142
  clear f143
  clear f144
  clear f145
  clear f146
  replace O0 := own_oldKeep O0 Kc155 (allS big136 all0)
  replace K0 := K0.trans Kc155 (allS (Or.inr sz137) all0)
  replace K1 := K1.trans Kc155 (allS (Or.inr sz138) all0)
  clear Kc155
  refine own_go (fun _ k => XS.astore X147.here hx rfl (hb hby at_310) rfl rfl (l' := #[iv p1, iv p2, iv p3, iv p4, iv p5, iv p6, iv nn, iv sv0, iv sv1, iv sv2, iv sp, rv ls, iv c12, iv c13, iv c14, rv b133, .unset, .unset]) rfl k) ?_
  refine own_go (fun _ k => XS.aload X147.here hx rfl (hb hby at_312) rfl rfl k) ?_
  obtain ⟨v157, T157, L157, X157, hQ157, st157⟩ := own_callV (y := (⟨"com/example/nudo/nudo/LoadingResult", "vehiclesExited", "()I"⟩ : MethodName)) (z := (⟨"com/example/nudo/nudo/LoadingResult", "vehiclesExited", "()I"⟩ : MethodName)) X147 hx hZ hown (ow100 hw) (ow101 hw) (notFace_of_selects (args := #[]) (mvT hZ (ow103 hw))) (ow103 hw) (ow102 hw) (ow29 hw) (ow104 hw) (rm_lrv_3 l Z a0 hw oDE oDV [] b133 w148 w149 x0 x1 x2 c13 c14 T147.heap O0 f151 f154 f152 f153) 0 0 0 (by show _ ≤ 48; omega) (by show _ ≤ 256; omega) (rfl : T147.heap = T147.heap) f150 (g := (mkF m 314 #[iv p1, iv p2, iv p3, iv p4, iv p5, iv p6, iv nn, iv sv0, iv sv1, iv sv2, iv sp, rv ls, iv c12, iv c13, iv c14, rv b133, .unset, .unset] [(.ref b133)])) rfl (by rw [hml]; rfl) [] [] (lenOf own_pd_9 rfl) rfl rfl (hb hby at_314)
  obtain ⟨rfl, Nc159, Kc158⟩ := hQ157
  refine own_go st157 ?_
  clear st157 X147
  replace N0 := Fr.app N0 Nc159
  clear Nc159
  refine own_go (fun _ k => XS.istore X157.here hx rfl (hb hby at_317) rfl (l' := #[iv p1, iv p2, iv p3, iv p4, iv p5, iv p6, iv nn, iv sv0, iv sv1, iv sv2, iv sp, rv ls, iv c12, iv c13, iv c14, rv b133, iv (((3 : Int32) - c13) - c14), .unset]) rfl k) ?_
  refine own_go (fun _ k => XS.iconst X157.here hx rfl (hb hby at_319) k) ?_
  refine own_go (fun _ k => XS.istore X157.here hx rfl (hb hby at_320) rfl (l' := #[iv p1, iv p2, iv p3, iv p4, iv p5, iv p6, iv nn, iv sv0, iv sv1, iv sv2, iv sp, rv ls, iv c12, iv c13, iv c14, rv b133, iv (((3 : Int32) - c13) - c14), iv (0 : Int32)]) rfl k) ?_
  show own_Go p e below s _ _ _ (T157.setTop (mkF m 322 #[iv p1, iv p2, iv p3, iv p4, iv p5, iv p6, iv nn, iv sv0, iv sv1, iv sv2, iv sp, rv ls, iv c12, iv c13, iv c14, rv b133, iv (((3 : Int32) - c13) - c14), iv (0 : Int32)] []))
  refine own_go (fun _ k => XS.iload X157.here hx rfl (hb hby at_322) rfl k) ?_
  refine own_go (fun _ k => XS.ifNo X157.here hx rfl (hb hby at_324) rfl ((if0 _ _).trans (tlt hn0).2.2.2) k) ?_
  refine own_go (fun _ k => XS.aload X157.here hx rfl (hb hby at_327) rfl rfl k) ?_
  refine own_go (fun _ k => XS.iconst X157.here hx rfl (hb hby at_329) k) ?_
  obtain ⟨v160, T160, L160, X160, hQ160, st160⟩ := own_callV (y := (⟨"com/example/nudo/nudo/LoadingResult", "exited", "(I)Z"⟩ : MethodName)) (z := (⟨"com/example/nudo/nudo/LoadingResult", "exited", "(I)Z"⟩ : MethodName)) X157 hx hZ hown (ow218 hw) (ow219 hw) (notFace_of_selects (args := #[]) (mvT hZ (ow221 hw))) (ow221 hw) (ow220 hw) (ow29 hw) (ow222 hw) (rm_lrx_3_0 l Z a0 hw oDE oDV [] b133 w148 w149 x0 x1 x2 T147.heap O0 f151 f154) 0 0 0 (by show _ ≤ 48; omega) (by show _ ≤ 256; omega) Kc158 f150 (g := (mkF m 330 #[iv p1, iv p2, iv p3, iv p4, iv p5, iv p6, iv nn, iv sv0, iv sv1, iv sv2, iv sp, rv ls, iv c12, iv c13, iv c14, rv b133, iv (((3 : Int32) - c13) - c14), iv (0 : Int32)] [(.int (0 : Int32)), (.ref b133)])) rfl (by rw [hml]; rfl) [(.int (0 : Int32))] [] (lenOf own_pd_14 rfl) rfl rfl (hb hby at_330)
  rcases hQ160 with hQ160 | hQ160
  · obtain ⟨rfl, Nc163, hp161, Kc162⟩ := hQ160
    refine own_go st160 ?_
    clear st160 X157 Kc158
    replace N0 := Fr.app N0 Nc163
    clear Nc163
    show own_Go p e below s _ _ _ (T160.setTop (mkF m 333 #[iv p1, iv p2, iv p3, iv p4, iv p5, iv p6, iv nn, iv sv0, iv sv1, iv sv2, iv sp, rv ls, iv c12, iv c13, iv c14, rv b133, iv (((3 : Int32) - c13) - c14), iv (0 : Int32)] [(.int (0 : Int32))]))
    refine own_go (fun _ k => XS.ifYes X160.here hx rfl (pc0 := 333) (pc' := 339) rfl (hb hby at_333) rfl ((if0 _ _).trans (teq (by decide : (0 : Int32) = (0 : Int32))).1) (by decide) (by decide) k) ?_
    refine own_go (fun _ k => XS.iload X160.here hx rfl (hb hby at_339) rfl k) ?_
    refine own_go (fun _ k => XS.iconst X160.here hx rfl (hb hby at_341) k) ?_
    refine own_go (fun _ k => XS.icmpNo X160.here hx rfl (hb hby at_342) rfl (tlt hn1).2.2.2 k) ?_
    refine own_go (fun _ k => XS.aload X160.here hx rfl (hb hby at_345) rfl rfl k) ?_
    refine own_go (fun _ k => XS.iconst X160.here hx rfl (hb hby at_347) k) ?_
    obtain ⟨v164, T164, L164, X164, hQ164, st164⟩ := own_callV (y := (⟨"com/example/nudo/nudo/LoadingResult", "exited", "(I)Z"⟩ : MethodName)) (z := (⟨"com/example/nudo/nudo/LoadingResult", "exited", "(I)Z"⟩ : MethodName)) X160 hx hZ hown (ow218 hw) (ow219 hw) (notFace_of_selects (args := #[]) (mvT hZ (ow221 hw))) (ow221 hw) (ow220 hw) (ow29 hw) (ow222 hw) (rm_lrx_3_1 l Z a0 hw oDE oDV [] b133 w148 w149 x0 x1 x2 T147.heap O0 f151 f154) 0 0 0 (by show _ ≤ 48; omega) (by show _ ≤ 256; omega) Kc162 f150 (g := (mkF m 348 #[iv p1, iv p2, iv p3, iv p4, iv p5, iv p6, iv nn, iv sv0, iv sv1, iv sv2, iv sp, rv ls, iv c12, iv c13, iv c14, rv b133, iv (((3 : Int32) - c13) - c14), iv (0 : Int32)] [(.int (1 : Int32)), (.ref b133)])) rfl (by rw [hml]; rfl) [(.int (1 : Int32))] [] (lenOf own_pd_14 rfl) rfl rfl (hb hby at_348)
    rcases hQ164 with hQ164 | hQ164
    · obtain ⟨rfl, Nc167, hp165, Kc166⟩ := hQ164
      refine own_go st164 ?_
      clear st164 X160 Kc162
      replace N0 := Fr.app N0 Nc167
      clear Nc167
      show own_Go p e below s _ _ _ (T164.setTop (mkF m 351 #[iv p1, iv p2, iv p3, iv p4, iv p5, iv p6, iv nn, iv sv0, iv sv1, iv sv2, iv sp, rv ls, iv c12, iv c13, iv c14, rv b133, iv (((3 : Int32) - c13) - c14), iv (0 : Int32)] [(.int (0 : Int32))]))
      refine own_go (fun _ k => XS.ifYes X164.here hx rfl (pc0 := 351) (pc' := 357) rfl (hb hby at_351) rfl ((if0 _ _).trans (teq (by decide : (0 : Int32) = (0 : Int32))).1) (by decide) (by decide) k) ?_
      refine own_go (fun _ k => XS.iload X164.here hx rfl (hb hby at_357) rfl k) ?_
      refine own_go (fun _ k => XS.iconst X164.here hx rfl (hb hby at_359) k) ?_
      refine own_go (fun _ k => XS.icmpNo X164.here hx rfl (hb hby at_360) rfl (tlt hn2).2.2.2 k) ?_
      refine own_go (fun _ k => XS.aload X164.here hx rfl (hb hby at_363) rfl rfl k) ?_
      refine own_go (fun _ k => XS.iconst X164.here hx rfl (hb hby at_365) k) ?_
      obtain ⟨v168, T168, L168, X168, hQ168, st168⟩ := own_callV (y := (⟨"com/example/nudo/nudo/LoadingResult", "exited", "(I)Z"⟩ : MethodName)) (z := (⟨"com/example/nudo/nudo/LoadingResult", "exited", "(I)Z"⟩ : MethodName)) X164 hx hZ hown (ow218 hw) (ow219 hw) (notFace_of_selects (args := #[]) (mvT hZ (ow221 hw))) (ow221 hw) (ow220 hw) (ow29 hw) (ow222 hw) (rm_lrx_3_2 l Z a0 hw oDE oDV [] b133 w148 w149 x0 x1 x2 T147.heap O0 f151 f154) 0 0 0 (by show _ ≤ 48; omega) (by show _ ≤ 256; omega) Kc166 f150 (g := (mkF m 366 #[iv p1, iv p2, iv p3, iv p4, iv p5, iv p6, iv nn, iv sv0, iv sv1, iv sv2, iv sp, rv ls, iv c12, iv c13, iv c14, rv b133, iv (((3 : Int32) - c13) - c14), iv (0 : Int32)] [(.int (2 : Int32)), (.ref b133)])) rfl (by rw [hml]; rfl) [(.int (2 : Int32))] [] (lenOf own_pd_14 rfl) rfl rfl (hb hby at_366)
      rcases hQ168 with hQ168 | hQ168
      · obtain ⟨rfl, Nc171, hp169, Kc170⟩ := hQ168
        refine own_go st168 ?_
        clear st168 X164 Kc166
        replace N0 := Fr.app N0 Nc171
        clear Nc171
        show own_Go p e below s _ _ _ (T168.setTop (mkF m 369 #[iv p1, iv p2, iv p3, iv p4, iv p5, iv p6, iv nn, iv sv0, iv sv1, iv sv2, iv sp, rv ls, iv c12, iv c13, iv c14, rv b133, iv (((3 : Int32) - c13) - c14), iv (0 : Int32)] [(.int (0 : Int32))]))
        refine own_go (fun _ k => XS.ifYes X168.here hx rfl (pc0 := 369) (pc' := 375) rfl (hb hby at_369) rfl ((if0 _ _).trans (teq (by decide : (0 : Int32) = (0 : Int32))).1) (by decide) (by decide) k) ?_
        refine own_go (fun _ k => XS.iload X168.here hx rfl (hb hby at_375) rfl k) ?_
        refine own_go (fun _ k => XS.iload X168.here hx rfl (hb hby at_377) rfl k) ?_
        refine own_go (fun _ k => XS.icmpNo X168.here hx rfl (hb hby at_379) rfl (teq (own_Rv hR (by simp))).2 k) ?_
        refine own_go (fun _ k => XS.iload X168.here hx rfl (hb hby at_382) rfl k) ?_
        refine own_go (fun _ k => XS.iload X168.here hx rfl (hb hby at_384) rfl k) ?_
        refine own_go (fun _ k => XS.icmpNo X168.here hx rfl (hb hby at_386) rfl (teq ((own_Rv hR (by simp)).trans (own_Rs hR (by simp [List.filter, hp161, hp165, hp169])))).2 k) ?_
        show own_Go p e below s _ _ _ (T168.setTop (mkF m 389 #[iv p1, iv p2, iv p3, iv p4, iv p5, iv p6, iv nn, iv sv0, iv sv1, iv sv2, iv sp, rv ls, iv c12, iv c13, iv c14, rv b133, iv (((3 : Int32) - c13) - c14), iv (0 : Int32)] []))
        refine own_go (fun _ k => XS.iconst X168.here hx rfl (hb hby at_389) k) ?_
        refine own_go (fun _ k => XS.goto X168.here hx rfl (pc0 := 390) (pc' := 394) rfl (hb hby at_390) (by decide) (by decide) k) ?_
        show own_Go p e below s _ _ _ (T168.setTop (mkF m 394 #[iv p1, iv p2, iv p3, iv p4, iv p5, iv p6, iv nn, iv sv0, iv sv1, iv sv2, iv sp, rv ls, iv c12, iv c13, iv c14, rv b133, iv (((3 : Int32) - c13) - c14), iv (0 : Int32)] [(.int (1 : Int32))]))
        refine own_retN X168 hx hlk Kc170 (t := .boolean) hret (by simp) (hb hby at_394) (by show _ ≤ 48; omega) (by show _ ≤ 256; omega) ?_
        exact ⟨rfl, N0, K0⟩
      · obtain ⟨rfl, Nc174, hp172, Kc173⟩ := hQ168
        refine own_go st168 ?_
        clear st168 X164 Kc166
        replace N0 := Fr.app N0 Nc174
        clear Nc174
        show own_Go p e below s _ _ _ (T168.setTop (mkF m 369 #[iv p1, iv p2, iv p3, iv p4, iv p5, iv p6, iv nn, iv sv0, iv sv1, iv sv2, iv sp, rv ls, iv c12, iv c13, iv c14, rv b133, iv (((3 : Int32) - c13) - c14), iv (0 : Int32)] [(.int (1 : Int32))]))
        refine own_go (fun _ k => XS.ifNo X168.here hx rfl (hb hby at_369) rfl ((if0 _ _).trans (feq (by decide : ¬ ((1 : Int32) = (0 : Int32)))).1) k) ?_
        refine own_go (fun _ k => XS.iinc X168.here hx rfl (hb hby at_372) rfl (l' := #[iv p1, iv p2, iv p3, iv p4, iv p5, iv p6, iv nn, iv sv0, iv sv1, iv sv2, iv sp, rv ls, iv c12, iv c13, iv c14, rv b133, iv (((3 : Int32) - c13) - c14), iv (1 : Int32)]) rfl k) ?_
        refine own_go (fun _ k => XS.iload X168.here hx rfl (hb hby at_375) rfl k) ?_
        refine own_go (fun _ k => XS.iload X168.here hx rfl (hb hby at_377) rfl k) ?_
        refine own_go (fun _ k => XS.icmpNo X168.here hx rfl (hb hby at_379) rfl (teq (own_Rv hR (by simp))).2 k) ?_
        refine own_go (fun _ k => XS.iload X168.here hx rfl (hb hby at_382) rfl k) ?_
        refine own_go (fun _ k => XS.iload X168.here hx rfl (hb hby at_384) rfl k) ?_
        show own_Go p e below s _ _ _ (T168.setTop (mkF m 386 #[iv p1, iv p2, iv p3, iv p4, iv p5, iv p6, iv nn, iv sv0, iv sv1, iv sv2, iv sp, rv ls, iv c12, iv c13, iv c14, rv b133, iv (((3 : Int32) - c13) - c14), iv (1 : Int32)] [(.int (1 : Int32)), (.int (((3 : Int32) - c13) - c14))]))
        refine own_go (fun _ k => XS.icmpNo X168.here hx rfl (hb hby at_386) rfl (teq ((own_Rv hR (by simp)).trans (own_Rs hR (by simp [List.filter, hp161, hp165, hp172])))).2 k) ?_
        refine own_go (fun _ k => XS.iconst X168.here hx rfl (hb hby at_389) k) ?_
        refine own_go (fun _ k => XS.goto X168.here hx rfl (pc0 := 390) (pc' := 394) rfl (hb hby at_390) (by decide) (by decide) k) ?_
        show own_Go p e below s _ _ _ (T168.setTop (mkF m 394 #[iv p1, iv p2, iv p3, iv p4, iv p5, iv p6, iv nn, iv sv0, iv sv1, iv sv2, iv sp, rv ls, iv c12, iv c13, iv c14, rv b133, iv (((3 : Int32) - c13) - c14), iv (1 : Int32)] [(.int (1 : Int32))]))
        refine own_retN X168 hx hlk Kc173 (t := .boolean) hret (by simp) (hb hby at_394) (by show _ ≤ 48; omega) (by show _ ≤ 256; omega) ?_
        exact ⟨rfl, N0, K0⟩
    · obtain ⟨rfl, Nc177, hp175, Kc176⟩ := hQ164
      refine own_go st164 ?_
      clear st164 X160 Kc162
      replace N0 := Fr.app N0 Nc177
      clear Nc177
      show own_Go p e below s _ _ _ (T164.setTop (mkF m 351 #[iv p1, iv p2, iv p3, iv p4, iv p5, iv p6, iv nn, iv sv0, iv sv1, iv sv2, iv sp, rv ls, iv c12, iv c13, iv c14, rv b133, iv (((3 : Int32) - c13) - c14), iv (0 : Int32)] [(.int (1 : Int32))]))
      refine own_go (fun _ k => XS.ifNo X164.here hx rfl (hb hby at_351) rfl ((if0 _ _).trans (feq (by decide : ¬ ((1 : Int32) = (0 : Int32)))).1) k) ?_
      refine own_go (fun _ k => XS.iinc X164.here hx rfl (hb hby at_354) rfl (l' := #[iv p1, iv p2, iv p3, iv p4, iv p5, iv p6, iv nn, iv sv0, iv sv1, iv sv2, iv sp, rv ls, iv c12, iv c13, iv c14, rv b133, iv (((3 : Int32) - c13) - c14), iv (1 : Int32)]) rfl k) ?_
      refine own_go (fun _ k => XS.iload X164.here hx rfl (hb hby at_357) rfl k) ?_
      refine own_go (fun _ k => XS.iconst X164.here hx rfl (hb hby at_359) k) ?_
      refine own_go (fun _ k => XS.icmpNo X164.here hx rfl (hb hby at_360) rfl (tlt hn2).2.2.2 k) ?_
      refine own_go (fun _ k => XS.aload X164.here hx rfl (hb hby at_363) rfl rfl k) ?_
      refine own_go (fun _ k => XS.iconst X164.here hx rfl (hb hby at_365) k) ?_
      show own_Go p e below s _ _ _ (T164.setTop (mkF m 366 #[iv p1, iv p2, iv p3, iv p4, iv p5, iv p6, iv nn, iv sv0, iv sv1, iv sv2, iv sp, rv ls, iv c12, iv c13, iv c14, rv b133, iv (((3 : Int32) - c13) - c14), iv (1 : Int32)] [(.int (2 : Int32)), (.ref b133)]))
      obtain ⟨v178, T178, L178, X178, hQ178, st178⟩ := own_callV (y := (⟨"com/example/nudo/nudo/LoadingResult", "exited", "(I)Z"⟩ : MethodName)) (z := (⟨"com/example/nudo/nudo/LoadingResult", "exited", "(I)Z"⟩ : MethodName)) X164 hx hZ hown (ow218 hw) (ow219 hw) (notFace_of_selects (args := #[]) (mvT hZ (ow221 hw))) (ow221 hw) (ow220 hw) (ow29 hw) (ow222 hw) (rm_lrx_3_2 l Z a0 hw oDE oDV [] b133 w148 w149 x0 x1 x2 T147.heap O0 f151 f154) 0 0 0 (by show _ ≤ 48; omega) (by show _ ≤ 256; omega) Kc176 f150 (g := (mkF m 366 #[iv p1, iv p2, iv p3, iv p4, iv p5, iv p6, iv nn, iv sv0, iv sv1, iv sv2, iv sp, rv ls, iv c12, iv c13, iv c14, rv b133, iv (((3 : Int32) - c13) - c14), iv (1 : Int32)] [(.int (2 : Int32)), (.ref b133)])) rfl (by rw [hml]; rfl) [(.int (2 : Int32))] [] (lenOf own_pd_14 rfl) rfl rfl (hb hby at_366)
      rcases hQ178 with hQ178 | hQ178
      · obtain ⟨rfl, Nc181, hp179, Kc180⟩ := hQ178
        refine own_go st178 ?_
        clear st178 X164 Kc176
        replace N0 := Fr.app N0 Nc181
        clear Nc181
        show own_Go p e below s _ _ _ (T178.setTop (mkF m 369 #[iv p1, iv p2, iv p3, iv p4, iv p5, iv p6, iv nn, iv sv0, iv sv1, iv sv2, iv sp, rv ls, iv c12, iv c13, iv c14, rv b133, iv (((3 : Int32) - c13) - c14), iv (1 : Int32)] [(.int (0 : Int32))]))
        refine own_go (fun _ k => XS.ifYes X178.here hx rfl (pc0 := 369) (pc' := 375) rfl (hb hby at_369) rfl ((if0 _ _).trans (teq (by decide : (0 : Int32) = (0 : Int32))).1) (by decide) (by decide) k) ?_
        refine own_go (fun _ k => XS.iload X178.here hx rfl (hb hby at_375) rfl k) ?_
        refine own_go (fun _ k => XS.iload X178.here hx rfl (hb hby at_377) rfl k) ?_
        refine own_go (fun _ k => XS.icmpNo X178.here hx rfl (hb hby at_379) rfl (teq (own_Rv hR (by simp))).2 k) ?_
        refine own_go (fun _ k => XS.iload X178.here hx rfl (hb hby at_382) rfl k) ?_
        refine own_go (fun _ k => XS.iload X178.here hx rfl (hb hby at_384) rfl k) ?_
        refine own_go (fun _ k => XS.icmpNo X178.here hx rfl (hb hby at_386) rfl (teq ((own_Rv hR (by simp)).trans (own_Rs hR (by simp [List.filter, hp161, hp175, hp179])))).2 k) ?_
        show own_Go p e below s _ _ _ (T178.setTop (mkF m 389 #[iv p1, iv p2, iv p3, iv p4, iv p5, iv p6, iv nn, iv sv0, iv sv1, iv sv2, iv sp, rv ls, iv c12, iv c13, iv c14, rv b133, iv (((3 : Int32) - c13) - c14), iv (1 : Int32)] []))
        refine own_go (fun _ k => XS.iconst X178.here hx rfl (hb hby at_389) k) ?_
        refine own_go (fun _ k => XS.goto X178.here hx rfl (pc0 := 390) (pc' := 394) rfl (hb hby at_390) (by decide) (by decide) k) ?_
        show own_Go p e below s _ _ _ (T178.setTop (mkF m 394 #[iv p1, iv p2, iv p3, iv p4, iv p5, iv p6, iv nn, iv sv0, iv sv1, iv sv2, iv sp, rv ls, iv c12, iv c13, iv c14, rv b133, iv (((3 : Int32) - c13) - c14), iv (1 : Int32)] [(.int (1 : Int32))]))
        refine own_retN X178 hx hlk Kc180 (t := .boolean) hret (by simp) (hb hby at_394) (by show _ ≤ 48; omega) (by show _ ≤ 256; omega) ?_
        exact ⟨rfl, N0, K0⟩
      · obtain ⟨rfl, Nc184, hp182, Kc183⟩ := hQ178
        refine own_go st178 ?_
        clear st178 X164 Kc176
        replace N0 := Fr.app N0 Nc184
        clear Nc184
        show own_Go p e below s _ _ _ (T178.setTop (mkF m 369 #[iv p1, iv p2, iv p3, iv p4, iv p5, iv p6, iv nn, iv sv0, iv sv1, iv sv2, iv sp, rv ls, iv c12, iv c13, iv c14, rv b133, iv (((3 : Int32) - c13) - c14), iv (1 : Int32)] [(.int (1 : Int32))]))
        refine own_go (fun _ k => XS.ifNo X178.here hx rfl (hb hby at_369) rfl ((if0 _ _).trans (feq (by decide : ¬ ((1 : Int32) = (0 : Int32)))).1) k) ?_
        refine own_go (fun _ k => XS.iinc X178.here hx rfl (hb hby at_372) rfl (l' := #[iv p1, iv p2, iv p3, iv p4, iv p5, iv p6, iv nn, iv sv0, iv sv1, iv sv2, iv sp, rv ls, iv c12, iv c13, iv c14, rv b133, iv (((3 : Int32) - c13) - c14), iv (2 : Int32)]) rfl k) ?_
        refine own_go (fun _ k => XS.iload X178.here hx rfl (hb hby at_375) rfl k) ?_
        refine own_go (fun _ k => XS.iload X178.here hx rfl (hb hby at_377) rfl k) ?_
        refine own_go (fun _ k => XS.icmpNo X178.here hx rfl (hb hby at_379) rfl (teq (own_Rv hR (by simp))).2 k) ?_
        refine own_go (fun _ k => XS.iload X178.here hx rfl (hb hby at_382) rfl k) ?_
        refine own_go (fun _ k => XS.iload X178.here hx rfl (hb hby at_384) rfl k) ?_
        show own_Go p e below s _ _ _ (T178.setTop (mkF m 386 #[iv p1, iv p2, iv p3, iv p4, iv p5, iv p6, iv nn, iv sv0, iv sv1, iv sv2, iv sp, rv ls, iv c12, iv c13, iv c14, rv b133, iv (((3 : Int32) - c13) - c14), iv (2 : Int32)] [(.int (2 : Int32)), (.int (((3 : Int32) - c13) - c14))]))
        refine own_go (fun _ k => XS.icmpNo X178.here hx rfl (hb hby at_386) rfl (teq ((own_Rv hR (by simp)).trans (own_Rs hR (by simp [List.filter, hp161, hp175, hp182])))).2 k) ?_
        refine own_go (fun _ k => XS.iconst X178.here hx rfl (hb hby at_389) k) ?_
        refine own_go (fun _ k => XS.goto X178.here hx rfl (pc0 := 390) (pc' := 394) rfl (hb hby at_390) (by decide) (by decide) k) ?_
        show own_Go p e below s _ _ _ (T178.setTop (mkF m 394 #[iv p1, iv p2, iv p3, iv p4, iv p5, iv p6, iv nn, iv sv0, iv sv1, iv sv2, iv sp, rv ls, iv c12, iv c13, iv c14, rv b133, iv (((3 : Int32) - c13) - c14), iv (2 : Int32)] [(.int (1 : Int32))]))
        refine own_retN X178 hx hlk Kc183 (t := .boolean) hret (by simp) (hb hby at_394) (by show _ ≤ 48; omega) (by show _ ≤ 256; omega) ?_
        exact ⟨rfl, N0, K0⟩
  · obtain ⟨rfl, Nc187, hp185, Kc186⟩ := hQ160
    refine own_go st160 ?_
    clear st160 X157 Kc158
    replace N0 := Fr.app N0 Nc187
    clear Nc187
    show own_Go p e below s _ _ _ (T160.setTop (mkF m 333 #[iv p1, iv p2, iv p3, iv p4, iv p5, iv p6, iv nn, iv sv0, iv sv1, iv sv2, iv sp, rv ls, iv c12, iv c13, iv c14, rv b133, iv (((3 : Int32) - c13) - c14), iv (0 : Int32)] [(.int (1 : Int32))]))
    refine own_go (fun _ k => XS.ifNo X160.here hx rfl (hb hby at_333) rfl ((if0 _ _).trans (feq (by decide : ¬ ((1 : Int32) = (0 : Int32)))).1) k) ?_
    refine own_go (fun _ k => XS.iinc X160.here hx rfl (hb hby at_336) rfl (l' := #[iv p1, iv p2, iv p3, iv p4, iv p5, iv p6, iv nn, iv sv0, iv sv1, iv sv2, iv sp, rv ls, iv c12, iv c13, iv c14, rv b133, iv (((3 : Int32) - c13) - c14), iv (1 : Int32)]) rfl k) ?_
    refine own_go (fun _ k => XS.iload X160.here hx rfl (hb hby at_339) rfl k) ?_
    refine own_go (fun _ k => XS.iconst X160.here hx rfl (hb hby at_341) k) ?_
    refine own_go (fun _ k => XS.icmpNo X160.here hx rfl (hb hby at_342) rfl (tlt hn1).2.2.2 k) ?_
    refine own_go (fun _ k => XS.aload X160.here hx rfl (hb hby at_345) rfl rfl k) ?_
    refine own_go (fun _ k => XS.iconst X160.here hx rfl (hb hby at_347) k) ?_
    show own_Go p e below s _ _ _ (T160.setTop (mkF m 348 #[iv p1, iv p2, iv p3, iv p4, iv p5, iv p6, iv nn, iv sv0, iv sv1, iv sv2, iv sp, rv ls, iv c12, iv c13, iv c14, rv b133, iv (((3 : Int32) - c13) - c14), iv (1 : Int32)] [(.int (1 : Int32)), (.ref b133)]))
    obtain ⟨v188, T188, L188, X188, hQ188, st188⟩ := own_callV (y := (⟨"com/example/nudo/nudo/LoadingResult", "exited", "(I)Z"⟩ : MethodName)) (z := (⟨"com/example/nudo/nudo/LoadingResult", "exited", "(I)Z"⟩ : MethodName)) X160 hx hZ hown (ow218 hw) (ow219 hw) (notFace_of_selects (args := #[]) (mvT hZ (ow221 hw))) (ow221 hw) (ow220 hw) (ow29 hw) (ow222 hw) (rm_lrx_3_1 l Z a0 hw oDE oDV [] b133 w148 w149 x0 x1 x2 T147.heap O0 f151 f154) 0 0 0 (by show _ ≤ 48; omega) (by show _ ≤ 256; omega) Kc186 f150 (g := (mkF m 348 #[iv p1, iv p2, iv p3, iv p4, iv p5, iv p6, iv nn, iv sv0, iv sv1, iv sv2, iv sp, rv ls, iv c12, iv c13, iv c14, rv b133, iv (((3 : Int32) - c13) - c14), iv (1 : Int32)] [(.int (1 : Int32)), (.ref b133)])) rfl (by rw [hml]; rfl) [(.int (1 : Int32))] [] (lenOf own_pd_14 rfl) rfl rfl (hb hby at_348)
    rcases hQ188 with hQ188 | hQ188
    · obtain ⟨rfl, Nc191, hp189, Kc190⟩ := hQ188
      refine own_go st188 ?_
      clear st188 X160 Kc186
      replace N0 := Fr.app N0 Nc191
      clear Nc191
      show own_Go p e below s _ _ _ (T188.setTop (mkF m 351 #[iv p1, iv p2, iv p3, iv p4, iv p5, iv p6, iv nn, iv sv0, iv sv1, iv sv2, iv sp, rv ls, iv c12, iv c13, iv c14, rv b133, iv (((3 : Int32) - c13) - c14), iv (1 : Int32)] [(.int (0 : Int32))]))
      refine own_go (fun _ k => XS.ifYes X188.here hx rfl (pc0 := 351) (pc' := 357) rfl (hb hby at_351) rfl ((if0 _ _).trans (teq (by decide : (0 : Int32) = (0 : Int32))).1) (by decide) (by decide) k) ?_
      refine own_go (fun _ k => XS.iload X188.here hx rfl (hb hby at_357) rfl k) ?_
      refine own_go (fun _ k => XS.iconst X188.here hx rfl (hb hby at_359) k) ?_
      refine own_go (fun _ k => XS.icmpNo X188.here hx rfl (hb hby at_360) rfl (tlt hn2).2.2.2 k) ?_
      refine own_go (fun _ k => XS.aload X188.here hx rfl (hb hby at_363) rfl rfl k) ?_
      refine own_go (fun _ k => XS.iconst X188.here hx rfl (hb hby at_365) k) ?_
      obtain ⟨v192, T192, L192, X192, hQ192, st192⟩ := own_callV (y := (⟨"com/example/nudo/nudo/LoadingResult", "exited", "(I)Z"⟩ : MethodName)) (z := (⟨"com/example/nudo/nudo/LoadingResult", "exited", "(I)Z"⟩ : MethodName)) X188 hx hZ hown (ow218 hw) (ow219 hw) (notFace_of_selects (args := #[]) (mvT hZ (ow221 hw))) (ow221 hw) (ow220 hw) (ow29 hw) (ow222 hw) (rm_lrx_3_2 l Z a0 hw oDE oDV [] b133 w148 w149 x0 x1 x2 T147.heap O0 f151 f154) 0 0 0 (by show _ ≤ 48; omega) (by show _ ≤ 256; omega) Kc190 f150 (g := (mkF m 366 #[iv p1, iv p2, iv p3, iv p4, iv p5, iv p6, iv nn, iv sv0, iv sv1, iv sv2, iv sp, rv ls, iv c12, iv c13, iv c14, rv b133, iv (((3 : Int32) - c13) - c14), iv (1 : Int32)] [(.int (2 : Int32)), (.ref b133)])) rfl (by rw [hml]; rfl) [(.int (2 : Int32))] [] (lenOf own_pd_14 rfl) rfl rfl (hb hby at_366)
      rcases hQ192 with hQ192 | hQ192
      · obtain ⟨rfl, Nc195, hp193, Kc194⟩ := hQ192
        refine own_go st192 ?_
        clear st192 X188 Kc190
        replace N0 := Fr.app N0 Nc195
        clear Nc195
        show own_Go p e below s _ _ _ (T192.setTop (mkF m 369 #[iv p1, iv p2, iv p3, iv p4, iv p5, iv p6, iv nn, iv sv0, iv sv1, iv sv2, iv sp, rv ls, iv c12, iv c13, iv c14, rv b133, iv (((3 : Int32) - c13) - c14), iv (1 : Int32)] [(.int (0 : Int32))]))
        refine own_go (fun _ k => XS.ifYes X192.here hx rfl (pc0 := 369) (pc' := 375) rfl (hb hby at_369) rfl ((if0 _ _).trans (teq (by decide : (0 : Int32) = (0 : Int32))).1) (by decide) (by decide) k) ?_
        refine own_go (fun _ k => XS.iload X192.here hx rfl (hb hby at_375) rfl k) ?_
        refine own_go (fun _ k => XS.iload X192.here hx rfl (hb hby at_377) rfl k) ?_
        refine own_go (fun _ k => XS.icmpNo X192.here hx rfl (hb hby at_379) rfl (teq (own_Rv hR (by simp))).2 k) ?_
        refine own_go (fun _ k => XS.iload X192.here hx rfl (hb hby at_382) rfl k) ?_
        refine own_go (fun _ k => XS.iload X192.here hx rfl (hb hby at_384) rfl k) ?_
        refine own_go (fun _ k => XS.icmpNo X192.here hx rfl (hb hby at_386) rfl (teq ((own_Rv hR (by simp)).trans (own_Rs hR (by simp [List.filter, hp185, hp189, hp193])))).2 k) ?_
        show own_Go p e below s _ _ _ (T192.setTop (mkF m 389 #[iv p1, iv p2, iv p3, iv p4, iv p5, iv p6, iv nn, iv sv0, iv sv1, iv sv2, iv sp, rv ls, iv c12, iv c13, iv c14, rv b133, iv (((3 : Int32) - c13) - c14), iv (1 : Int32)] []))
        refine own_go (fun _ k => XS.iconst X192.here hx rfl (hb hby at_389) k) ?_
        refine own_go (fun _ k => XS.goto X192.here hx rfl (pc0 := 390) (pc' := 394) rfl (hb hby at_390) (by decide) (by decide) k) ?_
        show own_Go p e below s _ _ _ (T192.setTop (mkF m 394 #[iv p1, iv p2, iv p3, iv p4, iv p5, iv p6, iv nn, iv sv0, iv sv1, iv sv2, iv sp, rv ls, iv c12, iv c13, iv c14, rv b133, iv (((3 : Int32) - c13) - c14), iv (1 : Int32)] [(.int (1 : Int32))]))
        refine own_retN X192 hx hlk Kc194 (t := .boolean) hret (by simp) (hb hby at_394) (by show _ ≤ 48; omega) (by show _ ≤ 256; omega) ?_
        exact ⟨rfl, N0, K0⟩
      · obtain ⟨rfl, Nc198, hp196, Kc197⟩ := hQ192
        refine own_go st192 ?_
        clear st192 X188 Kc190
        replace N0 := Fr.app N0 Nc198
        clear Nc198
        show own_Go p e below s _ _ _ (T192.setTop (mkF m 369 #[iv p1, iv p2, iv p3, iv p4, iv p5, iv p6, iv nn, iv sv0, iv sv1, iv sv2, iv sp, rv ls, iv c12, iv c13, iv c14, rv b133, iv (((3 : Int32) - c13) - c14), iv (1 : Int32)] [(.int (1 : Int32))]))
        refine own_go (fun _ k => XS.ifNo X192.here hx rfl (hb hby at_369) rfl ((if0 _ _).trans (feq (by decide : ¬ ((1 : Int32) = (0 : Int32)))).1) k) ?_
        refine own_go (fun _ k => XS.iinc X192.here hx rfl (hb hby at_372) rfl (l' := #[iv p1, iv p2, iv p3, iv p4, iv p5, iv p6, iv nn, iv sv0, iv sv1, iv sv2, iv sp, rv ls, iv c12, iv c13, iv c14, rv b133, iv (((3 : Int32) - c13) - c14), iv (2 : Int32)]) rfl k) ?_
        refine own_go (fun _ k => XS.iload X192.here hx rfl (hb hby at_375) rfl k) ?_
        refine own_go (fun _ k => XS.iload X192.here hx rfl (hb hby at_377) rfl k) ?_
        refine own_go (fun _ k => XS.icmpNo X192.here hx rfl (hb hby at_379) rfl (teq (own_Rv hR (by simp))).2 k) ?_
        refine own_go (fun _ k => XS.iload X192.here hx rfl (hb hby at_382) rfl k) ?_
        refine own_go (fun _ k => XS.iload X192.here hx rfl (hb hby at_384) rfl k) ?_
        show own_Go p e below s _ _ _ (T192.setTop (mkF m 386 #[iv p1, iv p2, iv p3, iv p4, iv p5, iv p6, iv nn, iv sv0, iv sv1, iv sv2, iv sp, rv ls, iv c12, iv c13, iv c14, rv b133, iv (((3 : Int32) - c13) - c14), iv (2 : Int32)] [(.int (2 : Int32)), (.int (((3 : Int32) - c13) - c14))]))
        refine own_go (fun _ k => XS.icmpNo X192.here hx rfl (hb hby at_386) rfl (teq ((own_Rv hR (by simp)).trans (own_Rs hR (by simp [List.filter, hp185, hp189, hp196])))).2 k) ?_
        refine own_go (fun _ k => XS.iconst X192.here hx rfl (hb hby at_389) k) ?_
        refine own_go (fun _ k => XS.goto X192.here hx rfl (pc0 := 390) (pc' := 394) rfl (hb hby at_390) (by decide) (by decide) k) ?_
        show own_Go p e below s _ _ _ (T192.setTop (mkF m 394 #[iv p1, iv p2, iv p3, iv p4, iv p5, iv p6, iv nn, iv sv0, iv sv1, iv sv2, iv sp, rv ls, iv c12, iv c13, iv c14, rv b133, iv (((3 : Int32) - c13) - c14), iv (2 : Int32)] [(.int (1 : Int32))]))
        refine own_retN X192 hx hlk Kc197 (t := .boolean) hret (by simp) (hb hby at_394) (by show _ ≤ 48; omega) (by show _ ≤ 256; omega) ?_
        exact ⟨rfl, N0, K0⟩
    · obtain ⟨rfl, Nc201, hp199, Kc200⟩ := hQ188
      refine own_go st188 ?_
      clear st188 X160 Kc186
      replace N0 := Fr.app N0 Nc201
      clear Nc201
      show own_Go p e below s _ _ _ (T188.setTop (mkF m 351 #[iv p1, iv p2, iv p3, iv p4, iv p5, iv p6, iv nn, iv sv0, iv sv1, iv sv2, iv sp, rv ls, iv c12, iv c13, iv c14, rv b133, iv (((3 : Int32) - c13) - c14), iv (1 : Int32)] [(.int (1 : Int32))]))
      refine own_go (fun _ k => XS.ifNo X188.here hx rfl (hb hby at_351) rfl ((if0 _ _).trans (feq (by decide : ¬ ((1 : Int32) = (0 : Int32)))).1) k) ?_
      refine own_go (fun _ k => XS.iinc X188.here hx rfl (hb hby at_354) rfl (l' := #[iv p1, iv p2, iv p3, iv p4, iv p5, iv p6, iv nn, iv sv0, iv sv1, iv sv2, iv sp, rv ls, iv c12, iv c13, iv c14, rv b133, iv (((3 : Int32) - c13) - c14), iv (2 : Int32)]) rfl k) ?_
      refine own_go (fun _ k => XS.iload X188.here hx rfl (hb hby at_357) rfl k) ?_
      refine own_go (fun _ k => XS.iconst X188.here hx rfl (hb hby at_359) k) ?_
      refine own_go (fun _ k => XS.icmpNo X188.here hx rfl (hb hby at_360) rfl (tlt hn2).2.2.2 k) ?_
      refine own_go (fun _ k => XS.aload X188.here hx rfl (hb hby at_363) rfl rfl k) ?_
      refine own_go (fun _ k => XS.iconst X188.here hx rfl (hb hby at_365) k) ?_
      show own_Go p e below s _ _ _ (T188.setTop (mkF m 366 #[iv p1, iv p2, iv p3, iv p4, iv p5, iv p6, iv nn, iv sv0, iv sv1, iv sv2, iv sp, rv ls, iv c12, iv c13, iv c14, rv b133, iv (((3 : Int32) - c13) - c14), iv (2 : Int32)] [(.int (2 : Int32)), (.ref b133)]))
      obtain ⟨v202, T202, L202, X202, hQ202, st202⟩ := own_callV (y := (⟨"com/example/nudo/nudo/LoadingResult", "exited", "(I)Z"⟩ : MethodName)) (z := (⟨"com/example/nudo/nudo/LoadingResult", "exited", "(I)Z"⟩ : MethodName)) X188 hx hZ hown (ow218 hw) (ow219 hw) (notFace_of_selects (args := #[]) (mvT hZ (ow221 hw))) (ow221 hw) (ow220 hw) (ow29 hw) (ow222 hw) (rm_lrx_3_2 l Z a0 hw oDE oDV [] b133 w148 w149 x0 x1 x2 T147.heap O0 f151 f154) 0 0 0 (by show _ ≤ 48; omega) (by show _ ≤ 256; omega) Kc200 f150 (g := (mkF m 366 #[iv p1, iv p2, iv p3, iv p4, iv p5, iv p6, iv nn, iv sv0, iv sv1, iv sv2, iv sp, rv ls, iv c12, iv c13, iv c14, rv b133, iv (((3 : Int32) - c13) - c14), iv (2 : Int32)] [(.int (2 : Int32)), (.ref b133)])) rfl (by rw [hml]; rfl) [(.int (2 : Int32))] [] (lenOf own_pd_14 rfl) rfl rfl (hb hby at_366)
      rcases hQ202 with hQ202 | hQ202
      · obtain ⟨rfl, Nc205, hp203, Kc204⟩ := hQ202
        refine own_go st202 ?_
        clear st202 X188 Kc200
        replace N0 := Fr.app N0 Nc205
        clear Nc205
        show own_Go p e below s _ _ _ (T202.setTop (mkF m 369 #[iv p1, iv p2, iv p3, iv p4, iv p5, iv p6, iv nn, iv sv0, iv sv1, iv sv2, iv sp, rv ls, iv c12, iv c13, iv c14, rv b133, iv (((3 : Int32) - c13) - c14), iv (2 : Int32)] [(.int (0 : Int32))]))
        refine own_go (fun _ k => XS.ifYes X202.here hx rfl (pc0 := 369) (pc' := 375) rfl (hb hby at_369) rfl ((if0 _ _).trans (teq (by decide : (0 : Int32) = (0 : Int32))).1) (by decide) (by decide) k) ?_
        refine own_go (fun _ k => XS.iload X202.here hx rfl (hb hby at_375) rfl k) ?_
        refine own_go (fun _ k => XS.iload X202.here hx rfl (hb hby at_377) rfl k) ?_
        refine own_go (fun _ k => XS.icmpNo X202.here hx rfl (hb hby at_379) rfl (teq (own_Rv hR (by simp))).2 k) ?_
        refine own_go (fun _ k => XS.iload X202.here hx rfl (hb hby at_382) rfl k) ?_
        refine own_go (fun _ k => XS.iload X202.here hx rfl (hb hby at_384) rfl k) ?_
        refine own_go (fun _ k => XS.icmpNo X202.here hx rfl (hb hby at_386) rfl (teq ((own_Rv hR (by simp)).trans (own_Rs hR (by simp [List.filter, hp185, hp199, hp203])))).2 k) ?_
        show own_Go p e below s _ _ _ (T202.setTop (mkF m 389 #[iv p1, iv p2, iv p3, iv p4, iv p5, iv p6, iv nn, iv sv0, iv sv1, iv sv2, iv sp, rv ls, iv c12, iv c13, iv c14, rv b133, iv (((3 : Int32) - c13) - c14), iv (2 : Int32)] []))
        refine own_go (fun _ k => XS.iconst X202.here hx rfl (hb hby at_389) k) ?_
        refine own_go (fun _ k => XS.goto X202.here hx rfl (pc0 := 390) (pc' := 394) rfl (hb hby at_390) (by decide) (by decide) k) ?_
        show own_Go p e below s _ _ _ (T202.setTop (mkF m 394 #[iv p1, iv p2, iv p3, iv p4, iv p5, iv p6, iv nn, iv sv0, iv sv1, iv sv2, iv sp, rv ls, iv c12, iv c13, iv c14, rv b133, iv (((3 : Int32) - c13) - c14), iv (2 : Int32)] [(.int (1 : Int32))]))
        refine own_retN X202 hx hlk Kc204 (t := .boolean) hret (by simp) (hb hby at_394) (by show _ ≤ 48; omega) (by show _ ≤ 256; omega) ?_
        exact ⟨rfl, N0, K0⟩
      · obtain ⟨rfl, Nc208, hp206, Kc207⟩ := hQ202
        refine own_go st202 ?_
        clear st202 X188 Kc200
        replace N0 := Fr.app N0 Nc208
        clear Nc208
        show own_Go p e below s _ _ _ (T202.setTop (mkF m 369 #[iv p1, iv p2, iv p3, iv p4, iv p5, iv p6, iv nn, iv sv0, iv sv1, iv sv2, iv sp, rv ls, iv c12, iv c13, iv c14, rv b133, iv (((3 : Int32) - c13) - c14), iv (2 : Int32)] [(.int (1 : Int32))]))
        refine own_go (fun _ k => XS.ifNo X202.here hx rfl (hb hby at_369) rfl ((if0 _ _).trans (feq (by decide : ¬ ((1 : Int32) = (0 : Int32)))).1) k) ?_
        refine own_go (fun _ k => XS.iinc X202.here hx rfl (hb hby at_372) rfl (l' := #[iv p1, iv p2, iv p3, iv p4, iv p5, iv p6, iv nn, iv sv0, iv sv1, iv sv2, iv sp, rv ls, iv c12, iv c13, iv c14, rv b133, iv (((3 : Int32) - c13) - c14), iv (3 : Int32)]) rfl k) ?_
        refine own_go (fun _ k => XS.iload X202.here hx rfl (hb hby at_375) rfl k) ?_
        refine own_go (fun _ k => XS.iload X202.here hx rfl (hb hby at_377) rfl k) ?_
        refine own_go (fun _ k => XS.icmpNo X202.here hx rfl (hb hby at_379) rfl (teq (own_Rv hR (by simp))).2 k) ?_
        refine own_go (fun _ k => XS.iload X202.here hx rfl (hb hby at_382) rfl k) ?_
        refine own_go (fun _ k => XS.iload X202.here hx rfl (hb hby at_384) rfl k) ?_
        show own_Go p e below s _ _ _ (T202.setTop (mkF m 386 #[iv p1, iv p2, iv p3, iv p4, iv p5, iv p6, iv nn, iv sv0, iv sv1, iv sv2, iv sp, rv ls, iv c12, iv c13, iv c14, rv b133, iv (((3 : Int32) - c13) - c14), iv (3 : Int32)] [(.int (3 : Int32)), (.int (((3 : Int32) - c13) - c14))]))
        refine own_go (fun _ k => XS.icmpNo X202.here hx rfl (hb hby at_386) rfl (teq ((own_Rv hR (by simp)).trans (own_Rs hR (by simp [List.filter, hp185, hp199, hp206])))).2 k) ?_
        refine own_go (fun _ k => XS.iconst X202.here hx rfl (hb hby at_389) k) ?_
        refine own_go (fun _ k => XS.goto X202.here hx rfl (pc0 := 390) (pc' := 394) rfl (hb hby at_390) (by decide) (by decide) k) ?_
        show own_Go p e below s _ _ _ (T202.setTop (mkF m 394 #[iv p1, iv p2, iv p3, iv p4, iv p5, iv p6, iv nn, iv sv0, iv sv1, iv sv2, iv sp, rv ls, iv c12, iv c13, iv c14, rv b133, iv (((3 : Int32) - c13) - c14), iv (3 : Int32)] [(.int (1 : Int32))]))
        refine own_retN X202 hx hlk Kc207 (t := .boolean) hret (by simp) (hb hby at_394) (by show _ ≤ 48; omega) (by show _ ≤ 256; omega) ?_
        exact ⟨rfl, N0, K0⟩
set_option maxRecDepth 65536 in
set_option maxHeartbeats 40000000 in
theorem sg_s216_2 {l : Launch} {Z : State} {a0 : Array Value} (hw : ∀ d ∈ tables_1, d.before a0 Z = true) {wd : Addr} {kd : ClassId} (oDE : Sta Z Z.heap "java/util/ArrayList" "DEFAULTCAPACITY_EMPTY_ELEMENTDATA" "[Ljava/lang/Object;" (.ref wd)) (oDV : Arv Z Z.heap wd kd (.object "java/lang/Object") (0 : Int32) [] .null) {p : Program} {e : Env} {s : State} {m : MethodId} {args : Array Value} {below : List Frame} {meth : Method} {c : Code} {T : State} {locs : List Loc} {cells slots : Nat} (p1 : Int32) (p2 : Int32) (p3 : Int32) (p4 : Int32) (p5 : Int32) (p6 : Int32) (nn : Int32) (sv0 : Int32) (sv1 : Int32) (sv2 : Int32) (sp : Int32) (ls : Addr) (c12 : Int32) (c13 : Int32) (c14 : Int32) (mc : Int32) (b : Addr) (k : ClassId) (el1 : Addr) (x0 : Int32) (pa0 : Addr) (kp0 : ClassId) (el2 : Addr) (x1 : Int32) (pa1 : Addr) (kp1 : ClassId) (h0 hs1 : Heap)
    (X0 : Stand p l e room_1 s m args below meth c T locs cells slots) (hx : p.tables.exec = Jvm.exec) (hby : c.code = code) (hml : c.maxLocals = 18) (hret : meth.sig.returnType = some .boolean) (hlk : meth.locks = false) (hZ : Z.Warmed39 s.vm) (hown : s.vm.findClass "com/example/nudo/nudo/LoadingResultVehiclesExitedPinLaw" = some m.cls) (hnm : meth.name = "law") (e0 : T.heap = hs1) (N0 : Fr Z.heap.size locs) (O0 : Ext Z.heap hs1) (K0 : Keep h0 hs1 []) (fp0 : Exa Z hs1 ls "java/util/ArrayList") (fp1 : Fld Z hs1 ls "java/util/ArrayList" "size" "I" (.int (2 : Int32))) (fp2 : Fld Z hs1 ls "java/util/ArrayList" "elementData" "[Ljava/lang/Object;" (.ref b)) (fp3 : Fld Z hs1 ls "java/util/AbstractList" "modCount" "I" (.int mc)) (fp4 : Arv Z hs1 b k (.object "java/lang/Object") (10 : Int32) [(.ref el1), (.ref el2), .null, .null, .null, .null, .null, .null, .null, .null] .null) (fp5 : Ovr Z k "java/lang/Object") (fp6 : Exa Z hs1 el1 "com/example/nudo/nudo/Vehicle") (fp7 : Fld Z hs1 el1 "com/example/nudo/nudo/Vehicle" "position" "I" (.int (-1 : Int32))) (fp8 : Fld Z hs1 el1 "com/example/nudo/nudo/Vehicle" "exitStep" "I" (.int x0)) (fp9 : Fld Z hs1 el1 "com/example/nudo/nudo/Vehicle" "trip" "I" (.int (0 : Int32))) (fp10 : Fld Z hs1 el1 "com/example/nudo/nudo/Vehicle" "path" "[Lcom/example/nudo/nudo/CellLink;" (.ref pa0)) (fp11 : Fld Z hs1 el1 "com/example/nudo/nudo/Vehicle" "departureStep" "I" (.int p4)) (fp12 : Arv Z hs1 pa0 kp0 (.object "com/example/nudo/nudo/CellLink") (0 : Int32) [] .null) (fp13 : Exa Z hs1 el2 "com/example/nudo/nudo/Vehicle") (fp14 : Fld Z hs1 el2 "com/example/nudo/nudo/Vehicle" "position" "I" (.int (-1 : Int32))) (fp15 : Fld Z hs1 el2 "com/example/nudo/nudo/Vehicle" "exitStep" "I" (.int x1)) (fp16 : Fld Z hs1 el2 "com/example/nudo/nudo/Vehicle" "trip" "I" (.int (1 : Int32))) (fp17 : Fld Z hs1 el2 "com/example/nudo/nudo/Vehicle" "path" "[Lcom/example/nudo/nudo/CellLink;" (.ref pa1)) (fp18 : Fld Z hs1 el2 "com/example/nudo/nudo/Vehicle" "departureStep" "I" (.int p4)) (fp19 : Arv Z hs1 pa1 kp1 (.object "com/example/nudo/nudo/CellLink") (0 : Int32) [] .null) (big_ls : Z.heap.size ≤ ls) (sz_ls : h0.size ≤ ls) (big_b : Z.heap.size ≤ b) (sz_b : h0.size ≤ b) (hn0 : (0 : Int32) < nn) (hn1 : (1 : Int32) < nn) (hR : own_R [x0, x1] c12 c13 c14) (hsp : ¬ (sp < (0 : Int32))) (hv0 : own_V3 sv0) (hv1 : own_V3 sv1) (hv2 : own_V3 sv2) (hcells : cells ≤ 8) (hslots : slots ≤ 33) :
    own_Go p e below s (Q_law Z wd kd p1 p2 p3 p4 p5 p6 h0) room_1.cells room_1.slots (T.setTop (mkF m 216 #[iv p1, iv p2, iv p3, iv p4, iv p5, iv p6, iv nn, iv sv0, iv sv1, iv sv2, iv sp, rv ls, iv c12, iv c13, iv c14, .unset, .unset, .unset] [])) := by
  have K1 := Keep.refl hs1 [ls, b]
  have ne209 : el1 ≠ ls := (ne_exa fp6 fp0 (by decide))
  have ne210 : el1 ≠ b := (Exa.neArv fp6 fp4 (ow110 hw))
  have ne211 : pa0 ≠ ls := (Ne.symm (Exa.neArv fp0 fp12 (ow2 hw)))
  have ne212 : pa0 ≠ b := (own_neTy fp12 fp4 (by decide))
  have ne213 : el2 ≠ ls := (ne_exa fp13 fp0 (by decide))
  have ne214 : el2 ≠ b := (Exa.neArv fp13 fp4 (ow110 hw))
  have ne215 : pa1 ≠ ls := (Ne.symm (Exa.neArv fp0 fp19 (ow2 hw)))
  have ne216 : pa1 ≠ b := (own_neTy fp19 fp4 (by decide))
  show own_Go p e below s _ _ _ (T.setTop (mkF m 216 #[iv p1, iv p2, iv p3, iv p4, iv p5, iv p6, iv nn, iv sv0, iv sv1, iv sv2, iv sp, rv ls, iv c12, iv c13, iv c14, .unset, .unset, .unset] []))
  refine own_go (fun _ k => XS.iload X0.here hx rfl (hb hby at_216) rfl k) ?_
  refine own_go (fun _ k => XS.iconst X0.here hx rfl (hb hby at_218) k) ?_
  by_cases hc217 : (2 : Int32) < nn
  · refine own_go (fun _ k => XS.icmpNo X0.here hx rfl (hb hby at_219) rfl (tlt hc217).2.2.2 k) ?_
    show own_Go p e below s _ _ _ (T.setTop (mkF m 222 #[iv p1, iv p2, iv p3, iv p4, iv p5, iv p6, iv nn, iv sv0, iv sv1, iv sv2, iv sp, rv ls, iv c12, iv c13, iv c14, .unset, .unset, .unset] []))
    refine own_go (fun _ k => XS.aload X0.here hx rfl (hb hby at_222) rfl rfl k) ?_
    refine own_go (fun _ k => XS.iconst X0.here hx rfl (hb hby at_224) k) ?_
    refine own_go (fun _ k => XS.iload X0.here hx rfl (hb hby at_225) rfl k) ?_
    refine own_go (fun _ k => XS.iloadN X0.here hx rfl (hb hby at_227) rfl k) ?_
    refine own_go (fun _ k => XS.iload X0.here hx rfl (hb hby at_228) rfl k) ?_
    obtain ⟨v218, T218, L218, X218, hQ218, st218⟩ := own_callS (y := (⟨"com/example/nudo/nudo/LoadingResultVehiclesExitedPinLaw", "make", "(IIII)Lcom/example/nudo/nudo/Vehicle;"⟩ : MethodName)) X0 hx hZ hown (ow105 hw) (ow106 hw) (ow107 hw) (ow108 hw) (rm_make l Z a0 hw oDE oDV [] (2 : Int32) sv2 p4 sp hs1 O0) 1 3 10 (by show _ ≤ 48; omega) (by show _ ≤ 256; omega) e0 (g := (mkF m 230 #[iv p1, iv p2, iv p3, iv p4, iv p5, iv p6, iv nn, iv sv0, iv sv1, iv sv2, iv sp, rv ls, iv c12, iv c13, iv c14, .unset, .unset, .unset] [(.int sp), (.int p4), (.int sv2), (.int (2 : Int32)), (.ref ls)])) rfl (by rw [hml]; rfl) [(.int (2 : Int32)), (.int sv2), (.int p4), (.int sp)] [(.ref ls)] (lenOf own_pd_15 rfl) rfl rfl (hb hby at_230)
    rcases hQ218 with hQ218 | hQ218
    · obtain ⟨w219, w220, w221, rfl, Nc233, hp222, Kc232, hb223, hb224, f225, f226, f227, f228, f229, f230, f231⟩ := hQ218
      refine own_go st218 ?_
      clear st218 X0 e0
      replace N0 := Fr.app N0 Nc233
      clear Nc233
      have ne234 : ls ≠ w219 := Nat.ne_of_lt (Nat.lt_of_lt_of_le fp0.lt hb223)
      have ne235 : b ≠ w219 := Nat.ne_of_lt (Nat.lt_of_lt_of_le fp4.lt hb223)
      have big236 : Z.heap.size ≤ w219 := Nat.le_trans O0.1 hb223
      have sz237 : h0.size ≤ w219 := Nat.le_trans K0.1 hb223
      have sz238 : hs1.size ≤ w219 := Nat.le_trans K1.1 hb223
      have ne239 : ls ≠ w220 := Nat.ne_of_lt (Nat.lt_of_lt_of_le fp0.lt hb224)
      have ne240 : b ≠ w220 := Nat.ne_of_lt (Nat.lt_of_lt_of_le fp4.lt hb224)
      have big241 : Z.heap.size ≤ w220 := Nat.le_trans O0.1 hb224
      have sz242 : h0.size ≤ w220 := Nat.le_trans K0.1 hb224
      have sz243 : hs1.size ≤ w220 := Nat.le_trans K1.1 hb224
      replace fp0 := fp0.keep Kc232
      replace fp1 := fp1.keep Kc232 nin0
      replace fp2 := fp2.keep Kc232 nin0
      replace fp3 := fp3.keep Kc232 nin0
      replace fp4 := fp4.keep Kc232 nin0
      replace O0 := own_oldKeep O0 Kc232 all0
      replace K0 := K0.trans Kc232 all0
      replace K1 := K1.trans Kc232 all0
      clear Kc232
      show own_Go p e below s _ _ _ (T218.setTop (mkF m 233 #[iv p1, iv p2, iv p3, iv p4, iv p5, iv p6, iv nn, iv sv0, iv sv1, iv sv2, iv sp, rv ls, iv c12, iv c13, iv c14, .unset, .unset, .unset] [(.ref w219), (.ref ls)]))
      obtain ⟨v244, T244, L244, X244, hQ244, st244⟩ := own_callV (y := (⟨"java/util/ArrayList", "add", "(Ljava/lang/Object;)Z"⟩ : MethodName)) (z := (⟨"java/util/ArrayList", "add", "(Ljava/lang/Object;)Z"⟩ : MethodName)) X218 hx hZ hown (ow145 hw) (ow146 hw) (notFace_of_selects (args := #[]) (mvT hZ (ow148 hw))) (ow148 hw) (ow147 hw) (ow3 hw) (ow149 hw) (rm_add1_2 l Z a0 hw oDE oDV [] ls w219 b k mc el1 el2 T218.heap O0 fp0 fp1 fp2 fp3 fp4 fp5 (Ins.of_exa f225 (ow172 hw)) big_ls big_b) 0 0 0 (by show _ ≤ 48; omega) (by show _ ≤ 256; omega) (rfl : T218.heap = T218.heap) fp0 (g := (mkF m 233 #[iv p1, iv p2, iv p3, iv p4, iv p5, iv p6, iv nn, iv sv0, iv sv1, iv sv2, iv sp, rv ls, iv c12, iv c13, iv c14, .unset, .unset, .unset] [(.ref w219), (.ref ls)])) rfl (by rw [hml]; rfl) [(.ref w219)] [] (lenOf own_pd_16 rfl) rfl rfl (hb hby at_233)
      obtain ⟨rfl, Nc252, Kc251, f245, f246, f247, f248, f249, f250⟩ := hQ244
      refine own_go st244 ?_
      clear st244 X218
      replace N0 := Fr.app N0 Nc252
      clear Nc252
      replace fp0 := fp0.keep Kc251
      clear fp1
      clear fp2
      clear fp3
      clear fp4
      replace f225 := f225.keep Kc251
      replace f226 := f226.keep Kc251 (ninS ne234.symm (ninS ne235.symm nin0))
      replace f227 := f227.keep Kc251 (ninS ne234.symm (ninS ne235.symm nin0))
      replace f228 := f228.keep Kc251 (ninS ne234.symm (ninS ne235.symm nin0))
      replace f229 := f229.keep Kc251 (ninS ne234.symm (ninS ne235.symm nin0))
      replace f230 := f230.keep Kc251 (ninS ne234.symm (ninS ne235.symm nin0))
      replace f231 := f231.keep Kc251 (ninS ne239.symm (ninS ne240.symm nin0))
      replace O0 := own_oldKeep O0 Kc251 (allS big_ls (allS big_b all0))
      replace K0 := K0.trans Kc251 (allS (Or.inr sz_ls) (allS (Or.inr sz_b) all0))
      replace K1 := K1.trans Kc251 (allS (Or.inl (List.mem_of_getElem? (i := 0) rfl)) (allS (Or.inl (List.mem_of_getElem? (i := 1) rfl)) all0))
      clear Kc251
      refine own_go (fun _ k => XS.pop X244.here hx rfl (hb hby at_236) rfl rfl k) ?_
      refine own_go (fun _ k => XS.iload X244.here hx rfl (hb hby at_237) rfl k) ?_
      refine own_go (fun _ k => XS.iload X244.here hx rfl (hb hby at_239) rfl k) ?_
      refine own_go (fun _ k => XS.ifNo X244.here hx rfl (hb hby at_241) rfl ((if0 _ _).trans (teq hp222).2) k) ?_
      refine own_go (fun _ k => XS.iconst X244.here hx rfl (hb hby at_244) k) ?_
      refine own_go (fun _ k => XS.goto X244.here hx rfl (pc0 := 245) (pc' := 249) rfl (hb hby at_245) (by decide) (by decide) k) ?_
      show own_Go p e below s _ _ _ (T244.setTop (mkF m 249 #[iv p1, iv p2, iv p3, iv p4, iv p5, iv p6, iv nn, iv sv0, iv sv1, iv sv2, iv sp, rv ls, iv c12, iv c13, iv c14, .unset, .unset, .unset] [(.int (1 : Int32)), (.int c12)]))
      obtain ⟨v253, T253, L253, X253, hQ253, st253⟩ := own_callS (y := (⟨"com/example/nudo/nudo/LoadingResultVehiclesExitedPinLaw", "is", "(Z)I"⟩ : MethodName)) X244 hx hZ hown (ow173 hw) (ow174 hw) (ow107 hw) (ow175 hw) (rm_is1 l Z a0 hw oDE oDV []  T244.heap O0) 1 0 0 (by show _ ≤ 48; omega) (by show _ ≤ 256; omega) (rfl : T244.heap = T244.heap) (g := (mkF m 249 #[iv p1, iv p2, iv p3, iv p4, iv p5, iv p6, iv nn, iv sv0, iv sv1, iv sv2, iv sp, rv ls, iv c12, iv c13, iv c14, .unset, .unset, .unset] [(.int (1 : Int32)), (.int c12)])) rfl (by rw [hml]; rfl) [(.int (1 : Int32))] [(.int c12)] (lenOf own_pd_17 rfl) rfl rfl (hb hby at_249)
      obtain ⟨rfl, Nc255, Kc254⟩ := hQ253
      refine own_go st253 ?_
      clear st253 X244
      replace N0 := Fr.app N0 Nc255
      clear Nc255
      refine own_go (fun _ k => XS.iadd X253.here hx rfl (hb hby at_252) rfl k) ?_
      refine own_go (fun _ k => XS.istore X253.here hx rfl (hb hby at_253) rfl (l' := #[iv p1, iv p2, iv p3, iv p4, iv p5, iv p6, iv nn, iv sv0, iv sv1, iv sv2, iv sp, rv ls, iv (c12 + (1 : Int32)), iv c13, iv c14, .unset, .unset, .unset]) rfl k) ?_
      refine own_go (fun _ k => XS.iload X253.here hx rfl (hb hby at_255) rfl k) ?_
      refine own_go (fun _ k => XS.iload X253.here hx rfl (hb hby at_257) rfl k) ?_
      refine own_go (fun _ k => XS.iconst X253.here hx rfl (hb hby at_259) k) ?_
      refine own_go (fun _ k => XS.icmpYes X253.here hx rfl (pc0 := 260) (pc' := 267) rfl (hb hby at_260) rfl (feq (by rw [hp222]; decide)).2 (by decide) (by decide) k) ?_
      show own_Go p e below s _ _ _ (T253.setTop (mkF m 267 #[iv p1, iv p2, iv p3, iv p4, iv p5, iv p6, iv nn, iv sv0, iv sv1, iv sv2, iv sp, rv ls, iv (c12 + (1 : Int32)), iv c13, iv c14, .unset, .unset, .unset] [(.int c13)]))
      refine own_go (fun _ k => XS.iconst X253.here hx rfl (hb hby at_267) k) ?_
      obtain ⟨v256, T256, L256, X256, hQ256, st256⟩ := own_callS (y := (⟨"com/example/nudo/nudo/LoadingResultVehiclesExitedPinLaw", "is", "(Z)I"⟩ : MethodName)) X253 hx hZ hown (ow173 hw) (ow174 hw) (ow107 hw) (ow175 hw) (rm_is0 l Z a0 hw oDE oDV []  T244.heap O0) 1 0 0 (by show _ ≤ 48; omega) (by show _ ≤ 256; omega) Kc254 (g := (mkF m 268 #[iv p1, iv p2, iv p3, iv p4, iv p5, iv p6, iv nn, iv sv0, iv sv1, iv sv2, iv sp, rv ls, iv (c12 + (1 : Int32)), iv c13, iv c14, .unset, .unset, .unset] [(.int (0 : Int32)), (.int c13)])) rfl (by rw [hml]; rfl) [(.int (0 : Int32))] [(.int c13)] (lenOf own_pd_17 rfl) rfl rfl (hb hby at_268)
      obtain ⟨rfl, Nc258, Kc257⟩ := hQ256
      refine own_go st256 ?_
      clear st256 X253 Kc254
      replace N0 := Fr.app N0 Nc258
      clear Nc258
      refine own_go (fun _ k => XS.iadd X256.here hx rfl (hb hby at_271) rfl k) ?_
      refine own_go (fun _ k => XS.istore X256.here hx rfl (hb hby at_272) rfl (l' := #[iv p1, iv p2, iv p3, iv p4, iv p5, iv p6, iv nn, iv sv0, iv sv1, iv sv2, iv sp, rv ls, iv (c12 + (1 : Int32)), iv (c13 + (0 : Int32)), iv c14, .unset, .unset, .unset]) rfl k) ?_
      refine own_go (fun _ k => XS.iload X256.here hx rfl (hb hby at_274) rfl k) ?_
      refine own_go (fun _ k => XS.iload X256.here hx rfl (hb hby at_276) rfl k) ?_
      refine own_go (fun _ k => XS.iconst X256.here hx rfl (hb hby at_278) k) ?_
      show own_Go p e below s _ _ _ (T256.setTop (mkF m 279 #[iv p1, iv p2, iv p3, iv p4, iv p5, iv p6, iv nn, iv sv0, iv sv1, iv sv2, iv sp, rv ls, iv (c12 + (1 : Int32)), iv (c13 + (0 : Int32)), iv c14, .unset, .unset, .unset] [(.int (2 : Int32)), (.int sv2), (.int c14)]))
      refine own_go (fun _ k => XS.icmpYes X256.here hx rfl (pc0 := 279) (pc' := 286) rfl (hb hby at_279) rfl (feq (by rw [hp222]; decide)).2 (by decide) (by decide) k) ?_
      refine own_go (fun _ k => XS.iconst X256.here hx rfl (hb hby at_286) k) ?_
      obtain ⟨v259, T259, L259, X259, hQ259, st259⟩ := own_callS (y := (⟨"com/example/nudo/nudo/LoadingResultVehiclesExitedPinLaw", "is", "(Z)I"⟩ : MethodName)) X256 hx hZ hown (ow173 hw) (ow174 hw) (ow107 hw) (ow175 hw) (rm_is0 l Z a0 hw oDE oDV []  T244.heap O0) 1 0 0 (by show _ ≤ 48; omega) (by show _ ≤ 256; omega) Kc257 (g := (mkF m 287 #[iv p1, iv p2, iv p3, iv p4, iv p5, iv p6, iv nn, iv sv0, iv sv1, iv sv2, iv sp, rv ls, iv (c12 + (1 : Int32)), iv (c13 + (0 : Int32)), iv c14, .unset, .unset, .unset] [(.int (0 : Int32)), (.int c14)])) rfl (by rw [hml]; rfl) [(.int (0 : Int32))] [(.int c14)] (lenOf own_pd_17 rfl) rfl rfl (hb hby at_287)
      obtain ⟨rfl, Nc261, Kc260⟩ := hQ259
      refine own_go st259 ?_
      clear st259 X256 Kc257
      replace N0 := Fr.app N0 Nc261
      clear Nc261
      refine own_go (fun _ k => XS.iadd X259.here hx rfl (hb hby at_290) rfl k) ?_
      refine own_go (fun _ k => XS.istore X259.here hx rfl (hb hby at_291) rfl (l' := #[iv p1, iv p2, iv p3, iv p4, iv p5, iv p6, iv nn, iv sv0, iv sv1, iv sv2, iv sp, rv ls, iv (c12 + (1 : Int32)), iv (c13 + (0 : Int32)), iv (c14 + (0 : Int32)), .unset, .unset, .unset]) rfl k) ?_
      show own_Go p e below s _ _ _ (T259.setTop (mkF m 293 #[iv p1, iv p2, iv p3, iv p4, iv p5, iv p6, iv nn, iv sv0, iv sv1, iv sv2, iv sp, rv ls, iv (c12 + (1 : Int32)), iv (c13 + (0 : Int32)), iv (c14 + (0 : Int32)), .unset, .unset, .unset] []))
      exact sg_s293_3 hw oDE oDV p1 p2 p3 p4 p5 p6 nn sv0 sv1 sv2 sp ls (c12 + (1 : Int32)) (c13 + (0 : Int32)) (c14 + (0 : Int32)) (mc + (1 : Int32)) b k el1 x0 pa0 kp0 el2 x1 pa1 kp1 w219 sp w220 w221 h0 T244.heap X259 hx hby hml hret hlk hZ hown hnm Kc260 N0 O0 K0 f245 f246 f247 f248 f249 f250 (fp6.keep K1) (fp7.keep K1 (ninS ne209 (ninS ne210 nin0))) (fp8.keep K1 (ninS ne209 (ninS ne210 nin0))) (fp9.keep K1 (ninS ne209 (ninS ne210 nin0))) (fp10.keep K1 (ninS ne209 (ninS ne210 nin0))) (fp11.keep K1 (ninS ne209 (ninS ne210 nin0))) (fp12.keep K1 (ninS ne211 (ninS ne212 nin0))) (fp13.keep K1) (fp14.keep K1 (ninS ne213 (ninS ne214 nin0))) (fp15.keep K1 (ninS ne213 (ninS ne214 nin0))) (fp16.keep K1 (ninS ne213 (ninS ne214 nin0))) (fp17.keep K1 (ninS ne213 (ninS ne214 nin0))) (fp18.keep K1 (ninS ne213 (ninS ne214 nin0))) (fp19.keep K1 (ninS ne215 (ninS ne216 nin0))) f225 f226 f227 f228 f229 f230 f231 big_ls sz_ls big_b sz_b hn0 hn1 hc217 (own_RA hR (by simp) hsp) (by omega) (by omega)
    · obtain ⟨w262, w263, w264, rfl, Nc276, hp265, Kc275, hb266, hb267, f268, f269, f270, f271, f272, f273, f274⟩ := hQ218
      refine own_go st218 ?_
      clear st218 X0 e0
      replace N0 := Fr.app N0 Nc276
      clear Nc276
      have ne277 : ls ≠ w262 := Nat.ne_of_lt (Nat.lt_of_lt_of_le fp0.lt hb266)
      have ne278 : b ≠ w262 := Nat.ne_of_lt (Nat.lt_of_lt_of_le fp4.lt hb266)
      have big279 : Z.heap.size ≤ w262 := Nat.le_trans O0.1 hb266
      have sz280 : h0.size ≤ w262 := Nat.le_trans K0.1 hb266
      have sz281 : hs1.size ≤ w262 := Nat.le_trans K1.1 hb266
      have ne282 : ls ≠ w263 := Nat.ne_of_lt (Nat.lt_of_lt_of_le fp0.lt hb267)
      have ne283 : b ≠ w263 := Nat.ne_of_lt (Nat.lt_of_lt_of_le fp4.lt hb267)
      have big284 : Z.heap.size ≤ w263 := Nat.le_trans O0.1 hb267
      have sz285 : h0.size ≤ w263 := Nat.le_trans K0.1 hb267
      have sz286 : hs1.size ≤ w263 := Nat.le_trans K1.1 hb267
      replace fp0 := fp0.keep Kc275
      replace fp1 := fp1.keep Kc275 nin0
      replace fp2 := fp2.keep Kc275 nin0
      replace fp3 := fp3.keep Kc275 nin0
      replace fp4 := fp4.keep Kc275 nin0
      replace O0 := own_oldKeep O0 Kc275 all0
      replace K0 := K0.trans Kc275 all0
      replace K1 := K1.trans Kc275 all0
      clear Kc275
      show own_Go p e below s _ _ _ (T218.setTop (mkF m 233 #[iv p1, iv p2, iv p3, iv p4, iv p5, iv p6, iv nn, iv sv0, iv sv1, iv sv2, iv sp, rv ls, iv c12, iv c13, iv c14, .unset, .unset, .unset] [(.ref w262), (.ref ls)]))
      obtain ⟨v287, T287, L287, X287, hQ287, st287⟩ := own_callV (y := (⟨"java/util/ArrayList", "add", "(Ljava/lang/Object;)Z"⟩ : MethodName)) (z := (⟨"java/util/ArrayList", "add", "(Ljava/lang/Object;)Z"⟩ : MethodName)) X218 hx hZ hown (ow145 hw) (ow146 hw) (notFace_of_selects (args := #[]) (mvT hZ (ow148 hw))) (ow148 hw) (ow147 hw) (ow3 hw) (ow149 hw) (rm_add1_2 l Z a0 hw oDE oDV [] ls w262 b k mc el1 el2 T218.heap O0 fp0 fp1 fp2 fp3 fp4 fp5 (Ins.of_exa f268 (ow172 hw)) big_ls big_b) 0 0 0 (by show _ ≤ 48; omega) (by show _ ≤ 256; omega) (rfl : T218.heap = T218.heap) fp0 (g := (mkF m 233 #[iv p1, iv p2, iv p3, iv p4, iv p5, iv p6, iv nn, iv sv0, iv sv1, iv sv2, iv sp, rv ls, iv c12, iv c13, iv c14, .unset, .unset, .unset] [(.ref w262), (.ref ls)])) rfl (by rw [hml]; rfl) [(.ref w262)] [] (lenOf own_pd_16 rfl) rfl rfl (hb hby at_233)
      obtain ⟨rfl, Nc295, Kc294, f288, f289, f290, f291, f292, f293⟩ := hQ287
      refine own_go st287 ?_
      clear st287 X218
      replace N0 := Fr.app N0 Nc295
      clear Nc295
      replace fp0 := fp0.keep Kc294
      clear fp1
      clear fp2
      clear fp3
      clear fp4
      replace f268 := f268.keep Kc294
      replace f269 := f269.keep Kc294 (ninS ne277.symm (ninS ne278.symm nin0))
      replace f270 := f270.keep Kc294 (ninS ne277.symm (ninS ne278.symm nin0))
      replace f271 := f271.keep Kc294 (ninS ne277.symm (ninS ne278.symm nin0))
      replace f272 := f272.keep Kc294 (ninS ne277.symm (ninS ne278.symm nin0))
      replace f273 := f273.keep Kc294 (ninS ne277.symm (ninS ne278.symm nin0))
      replace f274 := f274.keep Kc294 (ninS ne282.symm (ninS ne283.symm nin0))
      replace O0 := own_oldKeep O0 Kc294 (allS big_ls (allS big_b all0))
      replace K0 := K0.trans Kc294 (allS (Or.inr sz_ls) (allS (Or.inr sz_b) all0))
      replace K1 := K1.trans Kc294 (allS (Or.inl (List.mem_of_getElem? (i := 0) rfl)) (allS (Or.inl (List.mem_of_getElem? (i := 1) rfl)) all0))
      clear Kc294
      refine own_go (fun _ k => XS.pop X287.here hx rfl (hb hby at_236) rfl rfl k) ?_
      refine own_go (fun _ k => XS.iload X287.here hx rfl (hb hby at_237) rfl k) ?_
      refine own_go (fun _ k => XS.iload X287.here hx rfl (hb hby at_239) rfl k) ?_
      refine own_go (fun _ k => XS.ifYes X287.here hx rfl (pc0 := 241) (pc' := 248) rfl (hb hby at_241) rfl ((if0 _ _).trans (feq hp265).2) (by decide) (by decide) k) ?_
      refine own_go (fun _ k => XS.iconst X287.here hx rfl (hb hby at_248) k) ?_
      obtain ⟨v296, T296, L296, X296, hQ296, st296⟩ := own_callS (y := (⟨"com/example/nudo/nudo/LoadingResultVehiclesExitedPinLaw", "is", "(Z)I"⟩ : MethodName)) X287 hx hZ hown (ow173 hw) (ow174 hw) (ow107 hw) (ow175 hw) (rm_is0 l Z a0 hw oDE oDV []  T287.heap O0) 1 0 0 (by show _ ≤ 48; omega) (by show _ ≤ 256; omega) (rfl : T287.heap = T287.heap) (g := (mkF m 249 #[iv p1, iv p2, iv p3, iv p4, iv p5, iv p6, iv nn, iv sv0, iv sv1, iv sv2, iv sp, rv ls, iv c12, iv c13, iv c14, .unset, .unset, .unset] [(.int (0 : Int32)), (.int c12)])) rfl (by rw [hml]; rfl) [(.int (0 : Int32))] [(.int c12)] (lenOf own_pd_17 rfl) rfl rfl (hb hby at_249)
      obtain ⟨rfl, Nc298, Kc297⟩ := hQ296
      refine own_go st296 ?_
      clear st296 X287
      replace N0 := Fr.app N0 Nc298
      clear Nc298
      show own_Go p e below s _ _ _ (T296.setTop (mkF m 252 #[iv p1, iv p2, iv p3, iv p4, iv p5, iv p6, iv nn, iv sv0, iv sv1, iv sv2, iv sp, rv ls, iv c12, iv c13, iv c14, .unset, .unset, .unset] [(.int (0 : Int32)), (.int c12)]))
      refine own_go (fun _ k => XS.iadd X296.here hx rfl (hb hby at_252) rfl k) ?_
      refine own_go (fun _ k => XS.istore X296.here hx rfl (hb hby at_253) rfl (l' := #[iv p1, iv p2, iv p3, iv p4, iv p5, iv p6, iv nn, iv sv0, iv sv1, iv sv2, iv sp, rv ls, iv (c12 + (0 : Int32)), iv c13, iv c14, .unset, .unset, .unset]) rfl k) ?_
      refine own_go (fun _ k => XS.iload X296.here hx rfl (hb hby at_255) rfl k) ?_
      refine own_go (fun _ k => XS.iload X296.here hx rfl (hb hby at_257) rfl k) ?_
      refine own_go (fun _ k => XS.iconst X296.here hx rfl (hb hby at_259) k) ?_
      by_cases hc299 : sv2 = (1 : Int32)
      · refine own_go (fun _ k => XS.icmpNo X296.here hx rfl (hb hby at_260) rfl (teq hc299).2 k) ?_
        show own_Go p e below s _ _ _ (T296.setTop (mkF m 263 #[iv p1, iv p2, iv p3, iv p4, iv p5, iv p6, iv nn, iv sv0, iv sv1, iv sv2, iv sp, rv ls, iv (c12 + (0 : Int32)), iv c13, iv c14, .unset, .unset, .unset] [(.int c13)]))
        refine own_go (fun _ k => XS.iconst X296.here hx rfl (hb hby at_263) k) ?_
        refine own_go (fun _ k => XS.goto X296.here hx rfl (pc0 := 264) (pc' := 268) rfl (hb hby at_264) (by decide) (by decide) k) ?_
        obtain ⟨v300, T300, L300, X300, hQ300, st300⟩ := own_callS (y := (⟨"com/example/nudo/nudo/LoadingResultVehiclesExitedPinLaw", "is", "(Z)I"⟩ : MethodName)) X296 hx hZ hown (ow173 hw) (ow174 hw) (ow107 hw) (ow175 hw) (rm_is1 l Z a0 hw oDE oDV []  T287.heap O0) 1 0 0 (by show _ ≤ 48; omega) (by show _ ≤ 256; omega) Kc297 (g := (mkF m 268 #[iv p1, iv p2, iv p3, iv p4, iv p5, iv p6, iv nn, iv sv0, iv sv1, iv sv2, iv sp, rv ls, iv (c12 + (0 : Int32)), iv c13, iv c14, .unset, .unset, .unset] [(.int (1 : Int32)), (.int c13)])) rfl (by rw [hml]; rfl) [(.int (1 : Int32))] [(.int c13)] (lenOf own_pd_17 rfl) rfl rfl (hb hby at_268)
        obtain ⟨rfl, Nc302, Kc301⟩ := hQ300
        refine own_go st300 ?_
        clear st300 X296 Kc297
        replace N0 := Fr.app N0 Nc302
        clear Nc302
        refine own_go (fun _ k => XS.iadd X300.here hx rfl (hb hby at_271) rfl k) ?_
        refine own_go (fun _ k => XS.istore X300.here hx rfl (hb hby at_272) rfl (l' := #[iv p1, iv p2, iv p3, iv p4, iv p5, iv p6, iv nn, iv sv0, iv sv1, iv sv2, iv sp, rv ls, iv (c12 + (0 : Int32)), iv (c13 + (1 : Int32)), iv c14, .unset, .unset, .unset]) rfl k) ?_
        refine own_go (fun _ k => XS.iload X300.here hx rfl (hb hby at_274) rfl k) ?_
        refine own_go (fun _ k => XS.iload X300.here hx rfl (hb hby at_276) rfl k) ?_
        show own_Go p e below s _ _ _ (T300.setTop (mkF m 278 #[iv p1, iv p2, iv p3, iv p4, iv p5, iv p6, iv nn, iv sv0, iv sv1, iv sv2, iv sp, rv ls, iv (c12 + (0 : Int32)), iv (c13 + (1 : Int32)), iv c14, .unset, .unset, .unset] [(.int sv2), (.int c14)]))
        refine own_go (fun _ k => XS.iconst X300.here hx rfl (hb hby at_278) k) ?_
        refine own_go (fun _ k => XS.icmpYes X300.here hx rfl (pc0 := 279) (pc' := 286) rfl (hb hby at_279) rfl (feq (by rw [hc299]; decide)).2 (by decide) (by decide) k) ?_
        refine own_go (fun _ k => XS.iconst X300.here hx rfl (hb hby at_286) k) ?_
        obtain ⟨v303, T303, L303, X303, hQ303, st303⟩ := own_callS (y := (⟨"com/example/nudo/nudo/LoadingResultVehiclesExitedPinLaw", "is", "(Z)I"⟩ : MethodName)) X300 hx hZ hown (ow173 hw) (ow174 hw) (ow107 hw) (ow175 hw) (rm_is0 l Z a0 hw oDE oDV []  T287.heap O0) 1 0 0 (by show _ ≤ 48; omega) (by show _ ≤ 256; omega) Kc301 (g := (mkF m 287 #[iv p1, iv p2, iv p3, iv p4, iv p5, iv p6, iv nn, iv sv0, iv sv1, iv sv2, iv sp, rv ls, iv (c12 + (0 : Int32)), iv (c13 + (1 : Int32)), iv c14, .unset, .unset, .unset] [(.int (0 : Int32)), (.int c14)])) rfl (by rw [hml]; rfl) [(.int (0 : Int32))] [(.int c14)] (lenOf own_pd_17 rfl) rfl rfl (hb hby at_287)
        obtain ⟨rfl, Nc305, Kc304⟩ := hQ303
        refine own_go st303 ?_
        clear st303 X300 Kc301
        replace N0 := Fr.app N0 Nc305
        clear Nc305
        refine own_go (fun _ k => XS.iadd X303.here hx rfl (hb hby at_290) rfl k) ?_
        refine own_go (fun _ k => XS.istore X303.here hx rfl (hb hby at_291) rfl (l' := #[iv p1, iv p2, iv p3, iv p4, iv p5, iv p6, iv nn, iv sv0, iv sv1, iv sv2, iv sp, rv ls, iv (c12 + (0 : Int32)), iv (c13 + (1 : Int32)), iv (c14 + (0 : Int32)), .unset, .unset, .unset]) rfl k) ?_
        show own_Go p e below s _ _ _ (T303.setTop (mkF m 293 #[iv p1, iv p2, iv p3, iv p4, iv p5, iv p6, iv nn, iv sv0, iv sv1, iv sv2, iv sp, rv ls, iv (c12 + (0 : Int32)), iv (c13 + (1 : Int32)), iv (c14 + (0 : Int32)), .unset, .unset, .unset] []))
        exact sg_s293_3 hw oDE oDV p1 p2 p3 p4 p5 p6 nn sv0 sv1 sv2 sp ls (c12 + (0 : Int32)) (c13 + (1 : Int32)) (c14 + (0 : Int32)) (mc + (1 : Int32)) b k el1 x0 pa0 kp0 el2 x1 pa1 kp1 w262 (-1 : Int32) w263 w264 h0 T287.heap X303 hx hby hml hret hlk hZ hown hnm Kc304 N0 O0 K0 f288 f289 f290 f291 f292 f293 (fp6.keep K1) (fp7.keep K1 (ninS ne209 (ninS ne210 nin0))) (fp8.keep K1 (ninS ne209 (ninS ne210 nin0))) (fp9.keep K1 (ninS ne209 (ninS ne210 nin0))) (fp10.keep K1 (ninS ne209 (ninS ne210 nin0))) (fp11.keep K1 (ninS ne209 (ninS ne210 nin0))) (fp12.keep K1 (ninS ne211 (ninS ne212 nin0))) (fp13.keep K1) (fp14.keep K1 (ninS ne213 (ninS ne214 nin0))) (fp15.keep K1 (ninS ne213 (ninS ne214 nin0))) (fp16.keep K1 (ninS ne213 (ninS ne214 nin0))) (fp17.keep K1 (ninS ne213 (ninS ne214 nin0))) (fp18.keep K1 (ninS ne213 (ninS ne214 nin0))) (fp19.keep K1 (ninS ne215 (ninS ne216 nin0))) f268 f269 f270 f271 f272 f273 f274 big_ls sz_ls big_b sz_b hn0 hn1 hc217 (own_RB hR (by simp) (by decide)) (by omega) (by omega)
      · refine own_go (fun _ k => XS.icmpYes X296.here hx rfl (pc0 := 260) (pc' := 267) rfl (hb hby at_260) rfl (feq hc299).2 (by decide) (by decide) k) ?_
        show own_Go p e below s _ _ _ (T296.setTop (mkF m 267 #[iv p1, iv p2, iv p3, iv p4, iv p5, iv p6, iv nn, iv sv0, iv sv1, iv sv2, iv sp, rv ls, iv (c12 + (0 : Int32)), iv c13, iv c14, .unset, .unset, .unset] [(.int c13)]))
        refine own_go (fun _ k => XS.iconst X296.here hx rfl (hb hby at_267) k) ?_
        obtain ⟨v306, T306, L306, X306, hQ306, st306⟩ := own_callS (y := (⟨"com/example/nudo/nudo/LoadingResultVehiclesExitedPinLaw", "is", "(Z)I"⟩ : MethodName)) X296 hx hZ hown (ow173 hw) (ow174 hw) (ow107 hw) (ow175 hw) (rm_is0 l Z a0 hw oDE oDV []  T287.heap O0) 1 0 0 (by show _ ≤ 48; omega) (by show _ ≤ 256; omega) Kc297 (g := (mkF m 268 #[iv p1, iv p2, iv p3, iv p4, iv p5, iv p6, iv nn, iv sv0, iv sv1, iv sv2, iv sp, rv ls, iv (c12 + (0 : Int32)), iv c13, iv c14, .unset, .unset, .unset] [(.int (0 : Int32)), (.int c13)])) rfl (by rw [hml]; rfl) [(.int (0 : Int32))] [(.int c13)] (lenOf own_pd_17 rfl) rfl rfl (hb hby at_268)
        obtain ⟨rfl, Nc308, Kc307⟩ := hQ306
        refine own_go st306 ?_
        clear st306 X296 Kc297
        replace N0 := Fr.app N0 Nc308
        clear Nc308
        refine own_go (fun _ k => XS.iadd X306.here hx rfl (hb hby at_271) rfl k) ?_
        refine own_go (fun _ k => XS.istore X306.here hx rfl (hb hby at_272) rfl (l' := #[iv p1, iv p2, iv p3, iv p4, iv p5, iv p6, iv nn, iv sv0, iv sv1, iv sv2, iv sp, rv ls, iv (c12 + (0 : Int32)), iv (c13 + (0 : Int32)), iv c14, .unset, .unset, .unset]) rfl k) ?_
        refine own_go (fun _ k => XS.iload X306.here hx rfl (hb hby at_274) rfl k) ?_
        refine own_go (fun _ k => XS.iload X306.here hx rfl (hb hby at_276) rfl k) ?_
        refine own_go (fun _ k => XS.iconst X306.here hx rfl (hb hby at_278) k) ?_
        show own_Go p e below s _ _ _ (T306.setTop (mkF m 279 #[iv p1, iv p2, iv p3, iv p4, iv p5, iv p6, iv nn, iv sv0, iv sv1, iv sv2, iv sp, rv ls, iv (c12 + (0 : Int32)), iv (c13 + (0 : Int32)), iv c14, .unset, .unset, .unset] [(.int (2 : Int32)), (.int sv2), (.int c14)]))
        refine own_go (fun _ k => XS.icmpNo X306.here hx rfl (hb hby at_279) rfl (teq (own_v3 hv2 hp265 hc299)).2 k) ?_
        refine own_go (fun _ k => XS.iconst X306.here hx rfl (hb hby at_282) k) ?_
        refine own_go (fun _ k => XS.goto X306.here hx rfl (pc0 := 283) (pc' := 287) rfl (hb hby at_283) (by decide) (by decide) k) ?_
        obtain ⟨v309, T309, L309, X309, hQ309, st309⟩ := own_callS (y := (⟨"com/example/nudo/nudo/LoadingResultVehiclesExitedPinLaw", "is", "(Z)I"⟩ : MethodName)) X306 hx hZ hown (ow173 hw) (ow174 hw) (ow107 hw) (ow175 hw) (rm_is1 l Z a0 hw oDE oDV []  T287.heap O0) 1 0 0 (by show _ ≤ 48; omega) (by show _ ≤ 256; omega) Kc307 (g := (mkF m 287 #[iv p1, iv p2, iv p3, iv p4, iv p5, iv p6, iv nn, iv sv0, iv sv1, iv sv2, iv sp, rv ls, iv (c12 + (0 : Int32)), iv (c13 + (0 : Int32)), iv c14, .unset, .unset, .unset] [(.int (1 : Int32)), (.int c14)])) rfl (by rw [hml]; rfl) [(.int (1 : Int32))] [(.int c14)] (lenOf own_pd_17 rfl) rfl rfl (hb hby at_287)
        obtain ⟨rfl, Nc311, Kc310⟩ := hQ309
        refine own_go st309 ?_
        clear st309 X306 Kc307
        replace N0 := Fr.app N0 Nc311
        clear Nc311
        refine own_go (fun _ k => XS.iadd X309.here hx rfl (hb hby at_290) rfl k) ?_
        refine own_go (fun _ k => XS.istore X309.here hx rfl (hb hby at_291) rfl (l' := #[iv p1, iv p2, iv p3, iv p4, iv p5, iv p6, iv nn, iv sv0, iv sv1, iv sv2, iv sp, rv ls, iv (c12 + (0 : Int32)), iv (c13 + (0 : Int32)), iv (c14 + (1 : Int32)), .unset, .unset, .unset]) rfl k) ?_
        show own_Go p e below s _ _ _ (T309.setTop (mkF m 293 #[iv p1, iv p2, iv p3, iv p4, iv p5, iv p6, iv nn, iv sv0, iv sv1, iv sv2, iv sp, rv ls, iv (c12 + (0 : Int32)), iv (c13 + (0 : Int32)), iv (c14 + (1 : Int32)), .unset, .unset, .unset] []))
        exact sg_s293_3 hw oDE oDV p1 p2 p3 p4 p5 p6 nn sv0 sv1 sv2 sp ls (c12 + (0 : Int32)) (c13 + (0 : Int32)) (c14 + (1 : Int32)) (mc + (1 : Int32)) b k el1 x0 pa0 kp0 el2 x1 pa1 kp1 w262 (-1 : Int32) w263 w264 h0 T287.heap X309 hx hby hml hret hlk hZ hown hnm Kc310 N0 O0 K0 f288 f289 f290 f291 f292 f293 (fp6.keep K1) (fp7.keep K1 (ninS ne209 (ninS ne210 nin0))) (fp8.keep K1 (ninS ne209 (ninS ne210 nin0))) (fp9.keep K1 (ninS ne209 (ninS ne210 nin0))) (fp10.keep K1 (ninS ne209 (ninS ne210 nin0))) (fp11.keep K1 (ninS ne209 (ninS ne210 nin0))) (fp12.keep K1 (ninS ne211 (ninS ne212 nin0))) (fp13.keep K1) (fp14.keep K1 (ninS ne213 (ninS ne214 nin0))) (fp15.keep K1 (ninS ne213 (ninS ne214 nin0))) (fp16.keep K1 (ninS ne213 (ninS ne214 nin0))) (fp17.keep K1 (ninS ne213 (ninS ne214 nin0))) (fp18.keep K1 (ninS ne213 (ninS ne214 nin0))) (fp19.keep K1 (ninS ne215 (ninS ne216 nin0))) f268 f269 f270 f271 f272 f273 f274 big_ls sz_ls big_b sz_b hn0 hn1 hc217 (own_RC hR (by simp) (by decide)) (by omega) (by omega)
  · refine own_go (fun _ k => XS.icmpYes X0.here hx rfl (pc0 := 219) (pc' := 293) rfl (hb hby at_219) rfl (flt hc217).2.2.2 (by decide) (by decide) k) ?_
    show own_Go p e below s _ _ _ (T.setTop (mkF m 293 #[iv p1, iv p2, iv p3, iv p4, iv p5, iv p6, iv nn, iv sv0, iv sv1, iv sv2, iv sp, rv ls, iv c12, iv c13, iv c14, .unset, .unset, .unset] []))
    exact sg_s293_2 hw oDE oDV p1 p2 p3 p4 p5 p6 nn sv0 sv1 sv2 sp ls c12 c13 c14 mc b k el1 x0 pa0 kp0 el2 x1 pa1 kp1 h0 hs1 X0 hx hby hml hret hlk hZ hown hnm e0 N0 O0 K0 fp0 fp1 fp2 fp3 fp4 fp5 (fp6.keep K1) (fp7.keep K1 (ninS ne209 (ninS ne210 nin0))) (fp8.keep K1 (ninS ne209 (ninS ne210 nin0))) (fp9.keep K1 (ninS ne209 (ninS ne210 nin0))) (fp10.keep K1 (ninS ne209 (ninS ne210 nin0))) (fp11.keep K1 (ninS ne209 (ninS ne210 nin0))) (fp12.keep K1 (ninS ne211 (ninS ne212 nin0))) (fp13.keep K1) (fp14.keep K1 (ninS ne213 (ninS ne214 nin0))) (fp15.keep K1 (ninS ne213 (ninS ne214 nin0))) (fp16.keep K1 (ninS ne213 (ninS ne214 nin0))) (fp17.keep K1 (ninS ne213 (ninS ne214 nin0))) (fp18.keep K1 (ninS ne213 (ninS ne214 nin0))) (fp19.keep K1 (ninS ne215 (ninS ne216 nin0))) big_ls sz_ls big_b sz_b hn0 hn1 hc217 hR (by omega) (by omega)
set_option maxRecDepth 65536 in
set_option maxHeartbeats 40000000 in
theorem sg_s139_1 {l : Launch} {Z : State} {a0 : Array Value} (hw : ∀ d ∈ tables_1, d.before a0 Z = true) {wd : Addr} {kd : ClassId} (oDE : Sta Z Z.heap "java/util/ArrayList" "DEFAULTCAPACITY_EMPTY_ELEMENTDATA" "[Ljava/lang/Object;" (.ref wd)) (oDV : Arv Z Z.heap wd kd (.object "java/lang/Object") (0 : Int32) [] .null) {p : Program} {e : Env} {s : State} {m : MethodId} {args : Array Value} {below : List Frame} {meth : Method} {c : Code} {T : State} {locs : List Loc} {cells slots : Nat} (p1 : Int32) (p2 : Int32) (p3 : Int32) (p4 : Int32) (p5 : Int32) (p6 : Int32) (nn : Int32) (sv0 : Int32) (sv1 : Int32) (sv2 : Int32) (sp : Int32) (ls : Addr) (c12 : Int32) (c13 : Int32) (c14 : Int32) (mc : Int32) (b : Addr) (k : ClassId) (el1 : Addr) (x0 : Int32) (pa0 : Addr) (kp0 : ClassId) (h0 hs1 : Heap)
    (X0 : Stand p l e room_1 s m args below meth c T locs cells slots) (hx : p.tables.exec = Jvm.exec) (hby : c.code = code) (hml : c.maxLocals = 18) (hret : meth.sig.returnType = some .boolean) (hlk : meth.locks = false) (hZ : Z.Warmed39 s.vm) (hown : s.vm.findClass "com/example/nudo/nudo/LoadingResultVehiclesExitedPinLaw" = some m.cls) (hnm : meth.name = "law") (e0 : T.heap = hs1) (N0 : Fr Z.heap.size locs) (O0 : Ext Z.heap hs1) (K0 : Keep h0 hs1 []) (fp0 : Exa Z hs1 ls "java/util/ArrayList") (fp1 : Fld Z hs1 ls "java/util/ArrayList" "size" "I" (.int (1 : Int32))) (fp2 : Fld Z hs1 ls "java/util/ArrayList" "elementData" "[Ljava/lang/Object;" (.ref b)) (fp3 : Fld Z hs1 ls "java/util/AbstractList" "modCount" "I" (.int mc)) (fp4 : Arv Z hs1 b k (.object "java/lang/Object") (10 : Int32) [(.ref el1), .null, .null, .null, .null, .null, .null, .null, .null, .null] .null) (fp5 : Ovr Z k "java/lang/Object") (fp6 : Exa Z hs1 el1 "com/example/nudo/nudo/Vehicle") (fp7 : Fld Z hs1 el1 "com/example/nudo/nudo/Vehicle" "position" "I" (.int (-1 : Int32))) (fp8 : Fld Z hs1 el1 "com/example/nudo/nudo/Vehicle" "exitStep" "I" (.int x0)) (fp9 : Fld Z hs1 el1 "com/example/nudo/nudo/Vehicle" "trip" "I" (.int (0 : Int32))) (fp10 : Fld Z hs1 el1 "com/example/nudo/nudo/Vehicle" "path" "[Lcom/example/nudo/nudo/CellLink;" (.ref pa0)) (fp11 : Fld Z hs1 el1 "com/example/nudo/nudo/Vehicle" "departureStep" "I" (.int p4)) (fp12 : Arv Z hs1 pa0 kp0 (.object "com/example/nudo/nudo/CellLink") (0 : Int32) [] .null) (big_ls : Z.heap.size ≤ ls) (sz_ls : h0.size ≤ ls) (big_b : Z.heap.size ≤ b) (sz_b : h0.size ≤ b) (hn0 : (0 : Int32) < nn) (hR : own_R [x0] c12 c13 c14) (hsp : ¬ (sp < (0 : Int32))) (hv0 : own_V3 sv0) (hv1 : own_V3 sv1) (hv2 : own_V3 sv2) (hcells : cells ≤ 5) (hslots : slots ≤ 23) :
    own_Go p e below s (Q_law Z wd kd p1 p2 p3 p4 p5 p6 h0) room_1.cells room_1.slots (T.setTop (mkF m 139 #[iv p1, iv p2, iv p3, iv p4, iv p5, iv p6, iv nn, iv sv0, iv sv1, iv sv2, iv sp, rv ls, iv c12, iv c13, iv c14, .unset, .unset, .unset] [])) := by
  have K1 := Keep.refl hs1 [ls, b]
  have ne312 : el1 ≠ ls := (ne_exa fp6 fp0 (by decide))
  have ne313 : el1 ≠ b := (Exa.neArv fp6 fp4 (ow110 hw))
  have ne314 : pa0 ≠ ls := (Ne.symm (Exa.neArv fp0 fp12 (ow2 hw)))
  have ne315 : pa0 ≠ b := (own_neTy fp12 fp4 (by decide))
  show own_Go p e below s _ _ _ (T.setTop (mkF m 139 #[iv p1, iv p2, iv p3, iv p4, iv p5, iv p6, iv nn, iv sv0, iv sv1, iv sv2, iv sp, rv ls, iv c12, iv c13, iv c14, .unset, .unset, .unset] []))
  refine own_go (fun _ k => XS.iload X0.here hx rfl (hb hby at_139) rfl k) ?_
  refine own_go (fun _ k => XS.iconst X0.here hx rfl (hb hby at_141) k) ?_
  by_cases hc316 : (1 : Int32) < nn
  · refine own_go (fun _ k => XS.icmpNo X0.here hx rfl (hb hby at_142) rfl (tlt hc316).2.2.2 k) ?_
    show own_Go p e below s _ _ _ (T.setTop (mkF m 145 #[iv p1, iv p2, iv p3, iv p4, iv p5, iv p6, iv nn, iv sv0, iv sv1, iv sv2, iv sp, rv ls, iv c12, iv c13, iv c14, .unset, .unset, .unset] []))
    refine own_go (fun _ k => XS.aload X0.here hx rfl (hb hby at_145) rfl rfl k) ?_
    refine own_go (fun _ k => XS.iconst X0.here hx rfl (hb hby at_147) k) ?_
    refine own_go (fun _ k => XS.iload X0.here hx rfl (hb hby at_148) rfl k) ?_
    refine own_go (fun _ k => XS.iloadN X0.here hx rfl (hb hby at_150) rfl k) ?_
    refine own_go (fun _ k => XS.iload X0.here hx rfl (hb hby at_151) rfl k) ?_
    obtain ⟨v317, T317, L317, X317, hQ317, st317⟩ := own_callS (y := (⟨"com/example/nudo/nudo/LoadingResultVehiclesExitedPinLaw", "make", "(IIII)Lcom/example/nudo/nudo/Vehicle;"⟩ : MethodName)) X0 hx hZ hown (ow105 hw) (ow106 hw) (ow107 hw) (ow108 hw) (rm_make l Z a0 hw oDE oDV [] (1 : Int32) sv1 p4 sp hs1 O0) 1 3 10 (by show _ ≤ 48; omega) (by show _ ≤ 256; omega) e0 (g := (mkF m 153 #[iv p1, iv p2, iv p3, iv p4, iv p5, iv p6, iv nn, iv sv0, iv sv1, iv sv2, iv sp, rv ls, iv c12, iv c13, iv c14, .unset, .unset, .unset] [(.int sp), (.int p4), (.int sv1), (.int (1 : Int32)), (.ref ls)])) rfl (by rw [hml]; rfl) [(.int (1 : Int32)), (.int sv1), (.int p4), (.int sp)] [(.ref ls)] (lenOf own_pd_15 rfl) rfl rfl (hb hby at_153)
    rcases hQ317 with hQ317 | hQ317
    · obtain ⟨w318, w319, w320, rfl, Nc332, hp321, Kc331, hb322, hb323, f324, f325, f326, f327, f328, f329, f330⟩ := hQ317
      refine own_go st317 ?_
      clear st317 X0 e0
      replace N0 := Fr.app N0 Nc332
      clear Nc332
      have ne333 : ls ≠ w318 := Nat.ne_of_lt (Nat.lt_of_lt_of_le fp0.lt hb322)
      have ne334 : b ≠ w318 := Nat.ne_of_lt (Nat.lt_of_lt_of_le fp4.lt hb322)
      have big335 : Z.heap.size ≤ w318 := Nat.le_trans O0.1 hb322
      have sz336 : h0.size ≤ w318 := Nat.le_trans K0.1 hb322
      have sz337 : hs1.size ≤ w318 := Nat.le_trans K1.1 hb322
      have ne338 : ls ≠ w319 := Nat.ne_of_lt (Nat.lt_of_lt_of_le fp0.lt hb323)
      have ne339 : b ≠ w319 := Nat.ne_of_lt (Nat.lt_of_lt_of_le fp4.lt hb323)
      have big340 : Z.heap.size ≤ w319 := Nat.le_trans O0.1 hb323
      have sz341 : h0.size ≤ w319 := Nat.le_trans K0.1 hb323
      have sz342 : hs1.size ≤ w319 := Nat.le_trans K1.1 hb323
      replace fp0 := fp0.keep Kc331
      replace fp1 := fp1.keep Kc331 nin0
      replace fp2 := fp2.keep Kc331 nin0
      replace fp3 := fp3.keep Kc331 nin0
      replace fp4 := fp4.keep Kc331 nin0
      replace O0 := own_oldKeep O0 Kc331 all0
      replace K0 := K0.trans Kc331 all0
      replace K1 := K1.trans Kc331 all0
      clear Kc331
      show own_Go p e below s _ _ _ (T317.setTop (mkF m 156 #[iv p1, iv p2, iv p3, iv p4, iv p5, iv p6, iv nn, iv sv0, iv sv1, iv sv2, iv sp, rv ls, iv c12, iv c13, iv c14, .unset, .unset, .unset] [(.ref w318), (.ref ls)]))
      obtain ⟨v343, T343, L343, X343, hQ343, st343⟩ := own_callV (y := (⟨"java/util/ArrayList", "add", "(Ljava/lang/Object;)Z"⟩ : MethodName)) (z := (⟨"java/util/ArrayList", "add", "(Ljava/lang/Object;)Z"⟩ : MethodName)) X317 hx hZ hown (ow145 hw) (ow146 hw) (notFace_of_selects (args := #[]) (mvT hZ (ow148 hw))) (ow148 hw) (ow147 hw) (ow3 hw) (ow149 hw) (rm_add1_1 l Z a0 hw oDE oDV [] ls w318 b k mc el1 T317.heap O0 fp0 fp1 fp2 fp3 fp4 fp5 (Ins.of_exa f324 (ow172 hw)) big_ls big_b) 0 0 0 (by show _ ≤ 48; omega) (by show _ ≤ 256; omega) (rfl : T317.heap = T317.heap) fp0 (g := (mkF m 156 #[iv p1, iv p2, iv p3, iv p4, iv p5, iv p6, iv nn, iv sv0, iv sv1, iv sv2, iv sp, rv ls, iv c12, iv c13, iv c14, .unset, .unset, .unset] [(.ref w318), (.ref ls)])) rfl (by rw [hml]; rfl) [(.ref w318)] [] (lenOf own_pd_16 rfl) rfl rfl (hb hby at_156)
      obtain ⟨rfl, Nc351, Kc350, f344, f345, f346, f347, f348, f349⟩ := hQ343
      refine own_go st343 ?_
      clear st343 X317
      replace N0 := Fr.app N0 Nc351
      clear Nc351
      replace fp0 := fp0.keep Kc350
      clear fp1
      clear fp2
      clear fp3
      clear fp4
      replace f324 := f324.keep Kc350
      replace f325 := f325.keep Kc350 (ninS ne333.symm (ninS ne334.symm nin0))
      replace f326 := f326.keep Kc350 (ninS ne333.symm (ninS ne334.symm nin0))
      replace f327 := f327.keep Kc350 (ninS ne333.symm (ninS ne334.symm nin0))
      replace f328 := f328.keep Kc350 (ninS ne333.symm (ninS ne334.symm nin0))
      replace f329 := f329.keep Kc350 (ninS ne333.symm (ninS ne334.symm nin0))
      replace f330 := f330.keep Kc350 (ninS ne338.symm (ninS ne339.symm nin0))
      replace O0 := own_oldKeep O0 Kc350 (allS big_ls (allS big_b all0))
      replace K0 := K0.trans Kc350 (allS (Or.inr sz_ls) (allS (Or.inr sz_b) all0))
      replace K1 := K1.trans Kc350 (allS (Or.inl (List.mem_of_getElem? (i := 0) rfl)) (allS (Or.inl (List.mem_of_getElem? (i := 1) rfl)) all0))
      clear Kc350
      refine own_go (fun _ k => XS.pop X343.here hx rfl (hb hby at_159) rfl rfl k) ?_
      refine own_go (fun _ k => XS.iload X343.here hx rfl (hb hby at_160) rfl k) ?_
      refine own_go (fun _ k => XS.iload X343.here hx rfl (hb hby at_162) rfl k) ?_
      refine own_go (fun _ k => XS.ifNo X343.here hx rfl (hb hby at_164) rfl ((if0 _ _).trans (teq hp321).2) k) ?_
      refine own_go (fun _ k => XS.iconst X343.here hx rfl (hb hby at_167) k) ?_
      refine own_go (fun _ k => XS.goto X343.here hx rfl (pc0 := 168) (pc' := 172) rfl (hb hby at_168) (by decide) (by decide) k) ?_
      show own_Go p e below s _ _ _ (T343.setTop (mkF m 172 #[iv p1, iv p2, iv p3, iv p4, iv p5, iv p6, iv nn, iv sv0, iv sv1, iv sv2, iv sp, rv ls, iv c12, iv c13, iv c14, .unset, .unset, .unset] [(.int (1 : Int32)), (.int c12)]))
      obtain ⟨v352, T352, L352, X352, hQ352, st352⟩ := own_callS (y := (⟨"com/example/nudo/nudo/LoadingResultVehiclesExitedPinLaw", "is", "(Z)I"⟩ : MethodName)) X343 hx hZ hown (ow173 hw) (ow174 hw) (ow107 hw) (ow175 hw) (rm_is1 l Z a0 hw oDE oDV []  T343.heap O0) 1 0 0 (by show _ ≤ 48; omega) (by show _ ≤ 256; omega) (rfl : T343.heap = T343.heap) (g := (mkF m 172 #[iv p1, iv p2, iv p3, iv p4, iv p5, iv p6, iv nn, iv sv0, iv sv1, iv sv2, iv sp, rv ls, iv c12, iv c13, iv c14, .unset, .unset, .unset] [(.int (1 : Int32)), (.int c12)])) rfl (by rw [hml]; rfl) [(.int (1 : Int32))] [(.int c12)] (lenOf own_pd_17 rfl) rfl rfl (hb hby at_172)
      obtain ⟨rfl, Nc354, Kc353⟩ := hQ352
      refine own_go st352 ?_
      clear st352 X343
      replace N0 := Fr.app N0 Nc354
      clear Nc354
      refine own_go (fun _ k => XS.iadd X352.here hx rfl (hb hby at_175) rfl k) ?_
      refine own_go (fun _ k => XS.istore X352.here hx rfl (hb hby at_176) rfl (l' := #[iv p1, iv p2, iv p3, iv p4, iv p5, iv p6, iv nn, iv sv0, iv sv1, iv sv2, iv sp, rv ls, iv (c12 + (1 : Int32)), iv c13, iv c14, .unset, .unset, .unset]) rfl k) ?_
      refine own_go (fun _ k => XS.iload X352.here hx rfl (hb hby at_178) rfl k) ?_
      refine own_go (fun _ k => XS.iload X352.here hx rfl (hb hby at_180) rfl k) ?_
      refine own_go (fun _ k => XS.iconst X352.here hx rfl (hb hby at_182) k) ?_
      refine own_go (fun _ k => XS.icmpYes X352.here hx rfl (pc0 := 183) (pc' := 190) rfl (hb hby at_183) rfl (feq (by rw [hp321]; decide)).2 (by decide) (by decide) k) ?_
      show own_Go p e below s _ _ _ (T352.setTop (mkF m 190 #[iv p1, iv p2, iv p3, iv p4, iv p5, iv p6, iv nn, iv sv0, iv sv1, iv sv2, iv sp, rv ls, iv (c12 + (1 : Int32)), iv c13, iv c14, .unset, .unset, .unset] [(.int c13)]))
      refine own_go (fun _ k => XS.iconst X352.here hx rfl (hb hby at_190) k) ?_
      obtain ⟨v355, T355, L355, X355, hQ355, st355⟩ := own_callS (y := (⟨"com/example/nudo/nudo/LoadingResultVehiclesExitedPinLaw", "is", "(Z)I"⟩ : MethodName)) X352 hx hZ hown (ow173 hw) (ow174 hw) (ow107 hw) (ow175 hw) (rm_is0 l Z a0 hw oDE oDV []  T343.heap O0) 1 0 0 (by show _ ≤ 48; omega) (by show _ ≤ 256; omega) Kc353 (g := (mkF m 191 #[iv p1, iv p2, iv p3, iv p4, iv p5, iv p6, iv nn, iv sv0, iv sv1, iv sv2, iv sp, rv ls, iv (c12 + (1 : Int32)), iv c13, iv c14, .unset, .unset, .unset] [(.int (0 : Int32)), (.int c13)])) rfl (by rw [hml]; rfl) [(.int (0 : Int32))] [(.int c13)] (lenOf own_pd_17 rfl) rfl rfl (hb hby at_191)
      obtain ⟨rfl, Nc357, Kc356⟩ := hQ355
      refine own_go st355 ?_
      clear st355 X352 Kc353
      replace N0 := Fr.app N0 Nc357
      clear Nc357
      refine own_go (fun _ k => XS.iadd X355.here hx rfl (hb hby at_194) rfl k) ?_
      refine own_go (fun _ k => XS.istore X355.here hx rfl (hb hby at_195) rfl (l' := #[iv p1, iv p2, iv p3, iv p4, iv p5, iv p6, iv nn, iv sv0, iv sv1, iv sv2, iv sp, rv ls, iv (c12 + (1 : Int32)), iv (c13 + (0 : Int32)), iv c14, .unset, .unset, .unset]) rfl k) ?_
      refine own_go (fun _ k => XS.iload X355.here hx rfl (hb hby at_197) rfl k) ?_
      refine own_go (fun _ k => XS.iload X355.here hx rfl (hb hby at_199) rfl k) ?_
      refine own_go (fun _ k => XS.iconst X355.here hx rfl (hb hby at_201) k) ?_
      show own_Go p e below s _ _ _ (T355.setTop (mkF m 202 #[iv p1, iv p2, iv p3, iv p4, iv p5, iv p6, iv nn, iv sv0, iv sv1, iv sv2, iv sp, rv ls, iv (c12 + (1 : Int32)), iv (c13 + (0 : Int32)), iv c14, .unset, .unset, .unset] [(.int (2 : Int32)), (.int sv1), (.int c14)]))
      refine own_go (fun _ k => XS.icmpYes X355.here hx rfl (pc0 := 202) (pc' := 209) rfl (hb hby at_202) rfl (feq (by rw [hp321]; decide)).2 (by decide) (by decide) k) ?_
      refine own_go (fun _ k => XS.iconst X355.here hx rfl (hb hby at_209) k) ?_
      obtain ⟨v358, T358, L358, X358, hQ358, st358⟩ := own_callS (y := (⟨"com/example/nudo/nudo/LoadingResultVehiclesExitedPinLaw", "is", "(Z)I"⟩ : MethodName)) X355 hx hZ hown (ow173 hw) (ow174 hw) (ow107 hw) (ow175 hw) (rm_is0 l Z a0 hw oDE oDV []  T343.heap O0) 1 0 0 (by show _ ≤ 48; omega) (by show _ ≤ 256; omega) Kc356 (g := (mkF m 210 #[iv p1, iv p2, iv p3, iv p4, iv p5, iv p6, iv nn, iv sv0, iv sv1, iv sv2, iv sp, rv ls, iv (c12 + (1 : Int32)), iv (c13 + (0 : Int32)), iv c14, .unset, .unset, .unset] [(.int (0 : Int32)), (.int c14)])) rfl (by rw [hml]; rfl) [(.int (0 : Int32))] [(.int c14)] (lenOf own_pd_17 rfl) rfl rfl (hb hby at_210)
      obtain ⟨rfl, Nc360, Kc359⟩ := hQ358
      refine own_go st358 ?_
      clear st358 X355 Kc356
      replace N0 := Fr.app N0 Nc360
      clear Nc360
      refine own_go (fun _ k => XS.iadd X358.here hx rfl (hb hby at_213) rfl k) ?_
      refine own_go (fun _ k => XS.istore X358.here hx rfl (hb hby at_214) rfl (l' := #[iv p1, iv p2, iv p3, iv p4, iv p5, iv p6, iv nn, iv sv0, iv sv1, iv sv2, iv sp, rv ls, iv (c12 + (1 : Int32)), iv (c13 + (0 : Int32)), iv (c14 + (0 : Int32)), .unset, .unset, .unset]) rfl k) ?_
      show own_Go p e below s _ _ _ (T358.setTop (mkF m 216 #[iv p1, iv p2, iv p3, iv p4, iv p5, iv p6, iv nn, iv sv0, iv sv1, iv sv2, iv sp, rv ls, iv (c12 + (1 : Int32)), iv (c13 + (0 : Int32)), iv (c14 + (0 : Int32)), .unset, .unset, .unset] []))
      exact sg_s216_2 hw oDE oDV p1 p2 p3 p4 p5 p6 nn sv0 sv1 sv2 sp ls (c12 + (1 : Int32)) (c13 + (0 : Int32)) (c14 + (0 : Int32)) (mc + (1 : Int32)) b k el1 x0 pa0 kp0 w318 sp w319 w320 h0 T343.heap X358 hx hby hml hret hlk hZ hown hnm Kc359 N0 O0 K0 f344 f345 f346 f347 f348 f349 (fp6.keep K1) (fp7.keep K1 (ninS ne312 (ninS ne313 nin0))) (fp8.keep K1 (ninS ne312 (ninS ne313 nin0))) (fp9.keep K1 (ninS ne312 (ninS ne313 nin0))) (fp10.keep K1 (ninS ne312 (ninS ne313 nin0))) (fp11.keep K1 (ninS ne312 (ninS ne313 nin0))) (fp12.keep K1 (ninS ne314 (ninS ne315 nin0))) f324 f325 f326 f327 f328 f329 f330 big_ls sz_ls big_b sz_b hn0 hc316 (own_RA hR (by simp) hsp) hsp hv0 hv1 hv2 (by omega) (by omega)
    · obtain ⟨w361, w362, w363, rfl, Nc375, hp364, Kc374, hb365, hb366, f367, f368, f369, f370, f371, f372, f373⟩ := hQ317
      refine own_go st317 ?_
      clear st317 X0 e0
      replace N0 := Fr.app N0 Nc375
      clear Nc375
      have ne376 : ls ≠ w361 := Nat.ne_of_lt (Nat.lt_of_lt_of_le fp0.lt hb365)
      have ne377 : b ≠ w361 := Nat.ne_of_lt (Nat.lt_of_lt_of_le fp4.lt hb365)
      have big378 : Z.heap.size ≤ w361 := Nat.le_trans O0.1 hb365
      have sz379 : h0.size ≤ w361 := Nat.le_trans K0.1 hb365
      have sz380 : hs1.size ≤ w361 := Nat.le_trans K1.1 hb365
      have ne381 : ls ≠ w362 := Nat.ne_of_lt (Nat.lt_of_lt_of_le fp0.lt hb366)
      have ne382 : b ≠ w362 := Nat.ne_of_lt (Nat.lt_of_lt_of_le fp4.lt hb366)
      have big383 : Z.heap.size ≤ w362 := Nat.le_trans O0.1 hb366
      have sz384 : h0.size ≤ w362 := Nat.le_trans K0.1 hb366
      have sz385 : hs1.size ≤ w362 := Nat.le_trans K1.1 hb366
      replace fp0 := fp0.keep Kc374
      replace fp1 := fp1.keep Kc374 nin0
      replace fp2 := fp2.keep Kc374 nin0
      replace fp3 := fp3.keep Kc374 nin0
      replace fp4 := fp4.keep Kc374 nin0
      replace O0 := own_oldKeep O0 Kc374 all0
      replace K0 := K0.trans Kc374 all0
      replace K1 := K1.trans Kc374 all0
      clear Kc374
      show own_Go p e below s _ _ _ (T317.setTop (mkF m 156 #[iv p1, iv p2, iv p3, iv p4, iv p5, iv p6, iv nn, iv sv0, iv sv1, iv sv2, iv sp, rv ls, iv c12, iv c13, iv c14, .unset, .unset, .unset] [(.ref w361), (.ref ls)]))
      obtain ⟨v386, T386, L386, X386, hQ386, st386⟩ := own_callV (y := (⟨"java/util/ArrayList", "add", "(Ljava/lang/Object;)Z"⟩ : MethodName)) (z := (⟨"java/util/ArrayList", "add", "(Ljava/lang/Object;)Z"⟩ : MethodName)) X317 hx hZ hown (ow145 hw) (ow146 hw) (notFace_of_selects (args := #[]) (mvT hZ (ow148 hw))) (ow148 hw) (ow147 hw) (ow3 hw) (ow149 hw) (rm_add1_1 l Z a0 hw oDE oDV [] ls w361 b k mc el1 T317.heap O0 fp0 fp1 fp2 fp3 fp4 fp5 (Ins.of_exa f367 (ow172 hw)) big_ls big_b) 0 0 0 (by show _ ≤ 48; omega) (by show _ ≤ 256; omega) (rfl : T317.heap = T317.heap) fp0 (g := (mkF m 156 #[iv p1, iv p2, iv p3, iv p4, iv p5, iv p6, iv nn, iv sv0, iv sv1, iv sv2, iv sp, rv ls, iv c12, iv c13, iv c14, .unset, .unset, .unset] [(.ref w361), (.ref ls)])) rfl (by rw [hml]; rfl) [(.ref w361)] [] (lenOf own_pd_16 rfl) rfl rfl (hb hby at_156)
      obtain ⟨rfl, Nc394, Kc393, f387, f388, f389, f390, f391, f392⟩ := hQ386
      refine own_go st386 ?_
      clear st386 X317
      replace N0 := Fr.app N0 Nc394
      clear Nc394
      replace fp0 := fp0.keep Kc393
      clear fp1
      clear fp2
      clear fp3
      clear fp4
      replace f367 := f367.keep Kc393
      replace f368 := f368.keep Kc393 (ninS ne376.symm (ninS ne377.symm nin0))
      replace f369 := f369.keep Kc393 (ninS ne376.symm (ninS ne377.symm nin0))
      replace f370 := f370.keep Kc393 (ninS ne376.symm (ninS ne377.symm nin0))
      replace f371 := f371.keep Kc393 (ninS ne376.symm (ninS ne377.symm nin0))
      replace f372 := f372.keep Kc393 (ninS ne376.symm (ninS ne377.symm nin0))
      replace f373 := f373.keep Kc393 (ninS ne381.symm (ninS ne382.symm nin0))
      replace O0 := own_oldKeep O0 Kc393 (allS big_ls (allS big_b all0))
      replace K0 := K0.trans Kc393 (allS (Or.inr sz_ls) (allS (Or.inr sz_b) all0))
      replace K1 := K1.trans Kc393 (allS (Or.inl (List.mem_of_getElem? (i := 0) rfl)) (allS (Or.inl (List.mem_of_getElem? (i := 1) rfl)) all0))
      clear Kc393
      refine own_go (fun _ k => XS.pop X386.here hx rfl (hb hby at_159) rfl rfl k) ?_
      refine own_go (fun _ k => XS.iload X386.here hx rfl (hb hby at_160) rfl k) ?_
      refine own_go (fun _ k => XS.iload X386.here hx rfl (hb hby at_162) rfl k) ?_
      refine own_go (fun _ k => XS.ifYes X386.here hx rfl (pc0 := 164) (pc' := 171) rfl (hb hby at_164) rfl ((if0 _ _).trans (feq hp364).2) (by decide) (by decide) k) ?_
      refine own_go (fun _ k => XS.iconst X386.here hx rfl (hb hby at_171) k) ?_
      obtain ⟨v395, T395, L395, X395, hQ395, st395⟩ := own_callS (y := (⟨"com/example/nudo/nudo/LoadingResultVehiclesExitedPinLaw", "is", "(Z)I"⟩ : MethodName)) X386 hx hZ hown (ow173 hw) (ow174 hw) (ow107 hw) (ow175 hw) (rm_is0 l Z a0 hw oDE oDV []  T386.heap O0) 1 0 0 (by show _ ≤ 48; omega) (by show _ ≤ 256; omega) (rfl : T386.heap = T386.heap) (g := (mkF m 172 #[iv p1, iv p2, iv p3, iv p4, iv p5, iv p6, iv nn, iv sv0, iv sv1, iv sv2, iv sp, rv ls, iv c12, iv c13, iv c14, .unset, .unset, .unset] [(.int (0 : Int32)), (.int c12)])) rfl (by rw [hml]; rfl) [(.int (0 : Int32))] [(.int c12)] (lenOf own_pd_17 rfl) rfl rfl (hb hby at_172)
      obtain ⟨rfl, Nc397, Kc396⟩ := hQ395
      refine own_go st395 ?_
      clear st395 X386
      replace N0 := Fr.app N0 Nc397
      clear Nc397
      show own_Go p e below s _ _ _ (T395.setTop (mkF m 175 #[iv p1, iv p2, iv p3, iv p4, iv p5, iv p6, iv nn, iv sv0, iv sv1, iv sv2, iv sp, rv ls, iv c12, iv c13, iv c14, .unset, .unset, .unset] [(.int (0 : Int32)), (.int c12)]))
      refine own_go (fun _ k => XS.iadd X395.here hx rfl (hb hby at_175) rfl k) ?_
      refine own_go (fun _ k => XS.istore X395.here hx rfl (hb hby at_176) rfl (l' := #[iv p1, iv p2, iv p3, iv p4, iv p5, iv p6, iv nn, iv sv0, iv sv1, iv sv2, iv sp, rv ls, iv (c12 + (0 : Int32)), iv c13, iv c14, .unset, .unset, .unset]) rfl k) ?_
      refine own_go (fun _ k => XS.iload X395.here hx rfl (hb hby at_178) rfl k) ?_
      refine own_go (fun _ k => XS.iload X395.here hx rfl (hb hby at_180) rfl k) ?_
      refine own_go (fun _ k => XS.iconst X395.here hx rfl (hb hby at_182) k) ?_
      by_cases hc398 : sv1 = (1 : Int32)
      · refine own_go (fun _ k => XS.icmpNo X395.here hx rfl (hb hby at_183) rfl (teq hc398).2 k) ?_
        show own_Go p e below s _ _ _ (T395.setTop (mkF m 186 #[iv p1, iv p2, iv p3, iv p4, iv p5, iv p6, iv nn, iv sv0, iv sv1, iv sv2, iv sp, rv ls, iv (c12 + (0 : Int32)), iv c13, iv c14, .unset, .unset, .unset] [(.int c13)]))
        refine own_go (fun _ k => XS.iconst X395.here hx rfl (hb hby at_186) k) ?_
        refine own_go (fun _ k => XS.goto X395.here hx rfl (pc0 := 187) (pc' := 191) rfl (hb hby at_187) (by decide) (by decide) k) ?_
        obtain ⟨v399, T399, L399, X399, hQ399, st399⟩ := own_callS (y := (⟨"com/example/nudo/nudo/LoadingResultVehiclesExitedPinLaw", "is", "(Z)I"⟩ : MethodName)) X395 hx hZ hown (ow173 hw) (ow174 hw) (ow107 hw) (ow175 hw) (rm_is1 l Z a0 hw oDE oDV []  T386.heap O0) 1 0 0 (by show _ ≤ 48; omega) (by show _ ≤ 256; omega) Kc396 (g := (mkF m 191 #[iv p1, iv p2, iv p3, iv p4, iv p5, iv p6, iv nn, iv sv0, iv sv1, iv sv2, iv sp, rv ls, iv (c12 + (0 : Int32)), iv c13, iv c14, .unset, .unset, .unset] [(.int (1 : Int32)), (.int c13)])) rfl (by rw [hml]; rfl) [(.int (1 : Int32))] [(.int c13)] (lenOf own_pd_17 rfl) rfl rfl (hb hby at_191)
        obtain ⟨rfl, Nc401, Kc400⟩ := hQ399
        refine own_go st399 ?_
        clear st399 X395 Kc396
        replace N0 := Fr.app N0 Nc401
        clear Nc401
        refine own_go (fun _ k => XS.iadd X399.here hx rfl (hb hby at_194) rfl k) ?_
        refine own_go (fun _ k => XS.istore X399.here hx rfl (hb hby at_195) rfl (l' := #[iv p1, iv p2, iv p3, iv p4, iv p5, iv p6, iv nn, iv sv0, iv sv1, iv sv2, iv sp, rv ls, iv (c12 + (0 : Int32)), iv (c13 + (1 : Int32)), iv c14, .unset, .unset, .unset]) rfl k) ?_
        refine own_go (fun _ k => XS.iload X399.here hx rfl (hb hby at_197) rfl k) ?_
        refine own_go (fun _ k => XS.iload X399.here hx rfl (hb hby at_199) rfl k) ?_
        show own_Go p e below s _ _ _ (T399.setTop (mkF m 201 #[iv p1, iv p2, iv p3, iv p4, iv p5, iv p6, iv nn, iv sv0, iv sv1, iv sv2, iv sp, rv ls, iv (c12 + (0 : Int32)), iv (c13 + (1 : Int32)), iv c14, .unset, .unset, .unset] [(.int sv1), (.int c14)]))
        refine own_go (fun _ k => XS.iconst X399.here hx rfl (hb hby at_201) k) ?_
        refine own_go (fun _ k => XS.icmpYes X399.here hx rfl (pc0 := 202) (pc' := 209) rfl (hb hby at_202) rfl (feq (by rw [hc398]; decide)).2 (by decide) (by decide) k) ?_
        refine own_go (fun _ k => XS.iconst X399.here hx rfl (hb hby at_209) k) ?_
        obtain ⟨v402, T402, L402, X402, hQ402, st402⟩ := own_callS (y := (⟨"com/example/nudo/nudo/LoadingResultVehiclesExitedPinLaw", "is", "(Z)I"⟩ : MethodName)) X399 hx hZ hown (ow173 hw) (ow174 hw) (ow107 hw) (ow175 hw) (rm_is0 l Z a0 hw oDE oDV []  T386.heap O0) 1 0 0 (by show _ ≤ 48; omega) (by show _ ≤ 256; omega) Kc400 (g := (mkF m 210 #[iv p1, iv p2, iv p3, iv p4, iv p5, iv p6, iv nn, iv sv0, iv sv1, iv sv2, iv sp, rv ls, iv (c12 + (0 : Int32)), iv (c13 + (1 : Int32)), iv c14, .unset, .unset, .unset] [(.int (0 : Int32)), (.int c14)])) rfl (by rw [hml]; rfl) [(.int (0 : Int32))] [(.int c14)] (lenOf own_pd_17 rfl) rfl rfl (hb hby at_210)
        obtain ⟨rfl, Nc404, Kc403⟩ := hQ402
        refine own_go st402 ?_
        clear st402 X399 Kc400
        replace N0 := Fr.app N0 Nc404
        clear Nc404
        refine own_go (fun _ k => XS.iadd X402.here hx rfl (hb hby at_213) rfl k) ?_
        refine own_go (fun _ k => XS.istore X402.here hx rfl (hb hby at_214) rfl (l' := #[iv p1, iv p2, iv p3, iv p4, iv p5, iv p6, iv nn, iv sv0, iv sv1, iv sv2, iv sp, rv ls, iv (c12 + (0 : Int32)), iv (c13 + (1 : Int32)), iv (c14 + (0 : Int32)), .unset, .unset, .unset]) rfl k) ?_
        show own_Go p e below s _ _ _ (T402.setTop (mkF m 216 #[iv p1, iv p2, iv p3, iv p4, iv p5, iv p6, iv nn, iv sv0, iv sv1, iv sv2, iv sp, rv ls, iv (c12 + (0 : Int32)), iv (c13 + (1 : Int32)), iv (c14 + (0 : Int32)), .unset, .unset, .unset] []))
        exact sg_s216_2 hw oDE oDV p1 p2 p3 p4 p5 p6 nn sv0 sv1 sv2 sp ls (c12 + (0 : Int32)) (c13 + (1 : Int32)) (c14 + (0 : Int32)) (mc + (1 : Int32)) b k el1 x0 pa0 kp0 w361 (-1 : Int32) w362 w363 h0 T386.heap X402 hx hby hml hret hlk hZ hown hnm Kc403 N0 O0 K0 f387 f388 f389 f390 f391 f392 (fp6.keep K1) (fp7.keep K1 (ninS ne312 (ninS ne313 nin0))) (fp8.keep K1 (ninS ne312 (ninS ne313 nin0))) (fp9.keep K1 (ninS ne312 (ninS ne313 nin0))) (fp10.keep K1 (ninS ne312 (ninS ne313 nin0))) (fp11.keep K1 (ninS ne312 (ninS ne313 nin0))) (fp12.keep K1 (ninS ne314 (ninS ne315 nin0))) f367 f368 f369 f370 f371 f372 f373 big_ls sz_ls big_b sz_b hn0 hc316 (own_RB hR (by simp) (by decide)) hsp hv0 hv1 hv2 (by omega) (by omega)
      · refine own_go (fun _ k => XS.icmpYes X395.here hx rfl (pc0 := 183) (pc' := 190) rfl (hb hby at_183) rfl (feq hc398).2 (by decide) (by decide) k) ?_
        show own_Go p e below s _ _ _ (T395.setTop (mkF m 190 #[iv p1, iv p2, iv p3, iv p4, iv p5, iv p6, iv nn, iv sv0, iv sv1, iv sv2, iv sp, rv ls, iv (c12 + (0 : Int32)), iv c13, iv c14, .unset, .unset, .unset] [(.int c13)]))
        refine own_go (fun _ k => XS.iconst X395.here hx rfl (hb hby at_190) k) ?_
        obtain ⟨v405, T405, L405, X405, hQ405, st405⟩ := own_callS (y := (⟨"com/example/nudo/nudo/LoadingResultVehiclesExitedPinLaw", "is", "(Z)I"⟩ : MethodName)) X395 hx hZ hown (ow173 hw) (ow174 hw) (ow107 hw) (ow175 hw) (rm_is0 l Z a0 hw oDE oDV []  T386.heap O0) 1 0 0 (by show _ ≤ 48; omega) (by show _ ≤ 256; omega) Kc396 (g := (mkF m 191 #[iv p1, iv p2, iv p3, iv p4, iv p5, iv p6, iv nn, iv sv0, iv sv1, iv sv2, iv sp, rv ls, iv (c12 + (0 : Int32)), iv c13, iv c14, .unset, .unset, .unset] [(.int (0 : Int32)), (.int c13)])) rfl (by rw [hml]; rfl) [(.int (0 : Int32))] [(.int c13)] (lenOf own_pd_17 rfl) rfl rfl (hb hby at_191)
        obtain ⟨rfl, Nc407, Kc406⟩ := hQ405
        refine own_go st405 ?_
        clear st405 X395 Kc396
        replace N0 := Fr.app N0 Nc407
        clear Nc407
        refine own_go (fun _ k => XS.iadd X405.here hx rfl (hb hby at_194) rfl k) ?_
        refine own_go (fun _ k => XS.istore X405.here hx rfl (hb hby at_195) rfl (l' := #[iv p1, iv p2, iv p3, iv p4, iv p5, iv p6, iv nn, iv sv0, iv sv1, iv sv2, iv sp, rv ls, iv (c12 + (0 : Int32)), iv (c13 + (0 : Int32)), iv c14, .unset, .unset, .unset]) rfl k) ?_
        refine own_go (fun _ k => XS.iload X405.here hx rfl (hb hby at_197) rfl k) ?_
        refine own_go (fun _ k => XS.iload X405.here hx rfl (hb hby at_199) rfl k) ?_
        refine own_go (fun _ k => XS.iconst X405.here hx rfl (hb hby at_201) k) ?_
        show own_Go p e below s _ _ _ (T405.setTop (mkF m 202 #[iv p1, iv p2, iv p3, iv p4, iv p5, iv p6, iv nn, iv sv0, iv sv1, iv sv2, iv sp, rv ls, iv (c12 + (0 : Int32)), iv (c13 + (0 : Int32)), iv c14, .unset, .unset, .unset] [(.int (2 : Int32)), (.int sv1), (.int c14)]))
        refine own_go (fun _ k => XS.icmpNo X405.here hx rfl (hb hby at_202) rfl (teq (own_v3 hv1 hp364 hc398)).2 k) ?_
        refine own_go (fun _ k => XS.iconst X405.here hx rfl (hb hby at_205) k) ?_
        refine own_go (fun _ k => XS.goto X405.here hx rfl (pc0 := 206) (pc' := 210) rfl (hb hby at_206) (by decide) (by decide) k) ?_
        obtain ⟨v408, T408, L408, X408, hQ408, st408⟩ := own_callS (y := (⟨"com/example/nudo/nudo/LoadingResultVehiclesExitedPinLaw", "is", "(Z)I"⟩ : MethodName)) X405 hx hZ hown (ow173 hw) (ow174 hw) (ow107 hw) (ow175 hw) (rm_is1 l Z a0 hw oDE oDV []  T386.heap O0) 1 0 0 (by show _ ≤ 48; omega) (by show _ ≤ 256; omega) Kc406 (g := (mkF m 210 #[iv p1, iv p2, iv p3, iv p4, iv p5, iv p6, iv nn, iv sv0, iv sv1, iv sv2, iv sp, rv ls, iv (c12 + (0 : Int32)), iv (c13 + (0 : Int32)), iv c14, .unset, .unset, .unset] [(.int (1 : Int32)), (.int c14)])) rfl (by rw [hml]; rfl) [(.int (1 : Int32))] [(.int c14)] (lenOf own_pd_17 rfl) rfl rfl (hb hby at_210)
        obtain ⟨rfl, Nc410, Kc409⟩ := hQ408
        refine own_go st408 ?_
        clear st408 X405 Kc406
        replace N0 := Fr.app N0 Nc410
        clear Nc410
        refine own_go (fun _ k => XS.iadd X408.here hx rfl (hb hby at_213) rfl k) ?_
        refine own_go (fun _ k => XS.istore X408.here hx rfl (hb hby at_214) rfl (l' := #[iv p1, iv p2, iv p3, iv p4, iv p5, iv p6, iv nn, iv sv0, iv sv1, iv sv2, iv sp, rv ls, iv (c12 + (0 : Int32)), iv (c13 + (0 : Int32)), iv (c14 + (1 : Int32)), .unset, .unset, .unset]) rfl k) ?_
        show own_Go p e below s _ _ _ (T408.setTop (mkF m 216 #[iv p1, iv p2, iv p3, iv p4, iv p5, iv p6, iv nn, iv sv0, iv sv1, iv sv2, iv sp, rv ls, iv (c12 + (0 : Int32)), iv (c13 + (0 : Int32)), iv (c14 + (1 : Int32)), .unset, .unset, .unset] []))
        exact sg_s216_2 hw oDE oDV p1 p2 p3 p4 p5 p6 nn sv0 sv1 sv2 sp ls (c12 + (0 : Int32)) (c13 + (0 : Int32)) (c14 + (1 : Int32)) (mc + (1 : Int32)) b k el1 x0 pa0 kp0 w361 (-1 : Int32) w362 w363 h0 T386.heap X408 hx hby hml hret hlk hZ hown hnm Kc409 N0 O0 K0 f387 f388 f389 f390 f391 f392 (fp6.keep K1) (fp7.keep K1 (ninS ne312 (ninS ne313 nin0))) (fp8.keep K1 (ninS ne312 (ninS ne313 nin0))) (fp9.keep K1 (ninS ne312 (ninS ne313 nin0))) (fp10.keep K1 (ninS ne312 (ninS ne313 nin0))) (fp11.keep K1 (ninS ne312 (ninS ne313 nin0))) (fp12.keep K1 (ninS ne314 (ninS ne315 nin0))) f367 f368 f369 f370 f371 f372 f373 big_ls sz_ls big_b sz_b hn0 hc316 (own_RC hR (by simp) (by decide)) hsp hv0 hv1 hv2 (by omega) (by omega)
  · refine own_go (fun _ k => XS.icmpYes X0.here hx rfl (pc0 := 142) (pc' := 216) rfl (hb hby at_142) rfl (flt hc316).2.2.2 (by decide) (by decide) k) ?_
    show own_Go p e below s _ _ _ (T.setTop (mkF m 216 #[iv p1, iv p2, iv p3, iv p4, iv p5, iv p6, iv nn, iv sv0, iv sv1, iv sv2, iv sp, rv ls, iv c12, iv c13, iv c14, .unset, .unset, .unset] []))
    refine own_go (fun _ k => XS.iload X0.here hx rfl (hb hby at_216) rfl k) ?_
    refine own_go (fun _ k => XS.iconst X0.here hx rfl (hb hby at_218) k) ?_
    refine own_go (fun _ k => XS.icmpYes X0.here hx rfl (pc0 := 219) (pc' := 293) rfl (hb hby at_219) rfl (flt (own_ltk hc316 (by decide))).2.2.2 (by decide) (by decide) k) ?_
    show own_Go p e below s _ _ _ (T.setTop (mkF m 293 #[iv p1, iv p2, iv p3, iv p4, iv p5, iv p6, iv nn, iv sv0, iv sv1, iv sv2, iv sp, rv ls, iv c12, iv c13, iv c14, .unset, .unset, .unset] []))
    exact sg_s293_1 hw oDE oDV p1 p2 p3 p4 p5 p6 nn sv0 sv1 sv2 sp ls c12 c13 c14 mc b k el1 x0 pa0 kp0 h0 hs1 X0 hx hby hml hret hlk hZ hown hnm e0 N0 O0 K0 fp0 fp1 fp2 fp3 fp4 fp5 (fp6.keep K1) (fp7.keep K1 (ninS ne312 (ninS ne313 nin0))) (fp8.keep K1 (ninS ne312 (ninS ne313 nin0))) (fp9.keep K1 (ninS ne312 (ninS ne313 nin0))) (fp10.keep K1 (ninS ne312 (ninS ne313 nin0))) (fp11.keep K1 (ninS ne312 (ninS ne313 nin0))) (fp12.keep K1 (ninS ne314 (ninS ne315 nin0))) big_ls sz_ls big_b sz_b hn0 hc316 (own_ltk hc316 (by decide)) hR (by omega) (by omega)
set_option maxRecDepth 65536 in
set_option maxHeartbeats 40000000 in
theorem sg_s63_0 {l : Launch} {Z : State} {a0 : Array Value} (hw : ∀ d ∈ tables_1, d.before a0 Z = true) {wd : Addr} {kd : ClassId} (oDE : Sta Z Z.heap "java/util/ArrayList" "DEFAULTCAPACITY_EMPTY_ELEMENTDATA" "[Ljava/lang/Object;" (.ref wd)) (oDV : Arv Z Z.heap wd kd (.object "java/lang/Object") (0 : Int32) [] .null) {p : Program} {e : Env} {s : State} {m : MethodId} {args : Array Value} {below : List Frame} {meth : Method} {c : Code} {T : State} {locs : List Loc} {cells slots : Nat} (p1 : Int32) (p2 : Int32) (p3 : Int32) (p4 : Int32) (p5 : Int32) (p6 : Int32) (nn : Int32) (sv0 : Int32) (sv1 : Int32) (sv2 : Int32) (sp : Int32) (ls : Addr) (c12 : Int32) (c13 : Int32) (c14 : Int32) (mc : Int32) (h0 hs1 : Heap)
    (X0 : Stand p l e room_1 s m args below meth c T locs cells slots) (hx : p.tables.exec = Jvm.exec) (hby : c.code = code) (hml : c.maxLocals = 18) (hret : meth.sig.returnType = some .boolean) (hlk : meth.locks = false) (hZ : Z.Warmed39 s.vm) (hown : s.vm.findClass "com/example/nudo/nudo/LoadingResultVehiclesExitedPinLaw" = some m.cls) (hnm : meth.name = "law") (e0 : T.heap = hs1) (N0 : Fr Z.heap.size locs) (O0 : Ext Z.heap hs1) (K0 : Keep h0 hs1 []) (fp0 : Exa Z hs1 ls "java/util/ArrayList") (fp1 : Fld Z hs1 ls "java/util/ArrayList" "size" "I" (.int (0 : Int32))) (fp2 : Fld Z hs1 ls "java/util/ArrayList" "elementData" "[Ljava/lang/Object;" (.ref wd)) (fp3 : Fld Z hs1 ls "java/util/AbstractList" "modCount" "I" (.int mc)) (big_ls : Z.heap.size ≤ ls) (sz_ls : h0.size ≤ ls) (hR : own_R [] c12 c13 c14) (hsp : ¬ (sp < (0 : Int32))) (hv0 : own_V3 sv0) (hv1 : own_V3 sv1) (hv2 : own_V3 sv2) (hcells : cells ≤ 1) (hslots : slots ≤ 3) :
    own_Go p e below s (Q_law Z wd kd p1 p2 p3 p4 p5 p6 h0) room_1.cells room_1.slots (T.setTop (mkF m 63 #[iv p1, iv p2, iv p3, iv p4, iv p5, iv p6, iv nn, iv sv0, iv sv1, iv sv2, iv sp, rv ls, iv c12, iv c13, iv c14, .unset, .unset, .unset] [])) := by
  have K1 := Keep.refl hs1 [ls]
  show own_Go p e below s _ _ _ (T.setTop (mkF m 63 #[iv p1, iv p2, iv p3, iv p4, iv p5, iv p6, iv nn, iv sv0, iv sv1, iv sv2, iv sp, rv ls, iv c12, iv c13, iv c14, .unset, .unset, .unset] []))
  refine own_go (fun _ k => XS.iload X0.here hx rfl (hb hby at_63) rfl k) ?_
  by_cases hc411 : (0 : Int32) < nn
  · refine own_go (fun _ k => XS.ifNo X0.here hx rfl (hb hby at_65) rfl ((if0 _ _).trans (tlt hc411).2.2.2) k) ?_
    show own_Go p e below s _ _ _ (T.setTop (mkF m 68 #[iv p1, iv p2, iv p3, iv p4, iv p5, iv p6, iv nn, iv sv0, iv sv1, iv sv2, iv sp, rv ls, iv c12, iv c13, iv c14, .unset, .unset, .unset] []))
    refine own_go (fun _ k => XS.aload X0.here hx rfl (hb hby at_68) rfl rfl k) ?_
    refine own_go (fun _ k => XS.iconst X0.here hx rfl (hb hby at_70) k) ?_
    refine own_go (fun _ k => XS.iload X0.here hx rfl (hb hby at_71) rfl k) ?_
    refine own_go (fun _ k => XS.iloadN X0.here hx rfl (hb hby at_73) rfl k) ?_
    refine own_go (fun _ k => XS.iload X0.here hx rfl (hb hby at_74) rfl k) ?_
    obtain ⟨v412, T412, L412, X412, hQ412, st412⟩ := own_callS (y := (⟨"com/example/nudo/nudo/LoadingResultVehiclesExitedPinLaw", "make", "(IIII)Lcom/example/nudo/nudo/Vehicle;"⟩ : MethodName)) X0 hx hZ hown (ow105 hw) (ow106 hw) (ow107 hw) (ow108 hw) (rm_make l Z a0 hw oDE oDV [] (0 : Int32) sv0 p4 sp hs1 O0) 1 3 10 (by show _ ≤ 48; omega) (by show _ ≤ 256; omega) e0 (g := (mkF m 76 #[iv p1, iv p2, iv p3, iv p4, iv p5, iv p6, iv nn, iv sv0, iv sv1, iv sv2, iv sp, rv ls, iv c12, iv c13, iv c14, .unset, .unset, .unset] [(.int sp), (.int p4), (.int sv0), (.int (0 : Int32)), (.ref ls)])) rfl (by rw [hml]; rfl) [(.int (0 : Int32)), (.int sv0), (.int p4), (.int sp)] [(.ref ls)] (lenOf own_pd_15 rfl) rfl rfl (hb hby at_76)
    rcases hQ412 with hQ412 | hQ412
    · obtain ⟨w413, w414, w415, rfl, Nc427, hp416, Kc426, hb417, hb418, f419, f420, f421, f422, f423, f424, f425⟩ := hQ412
      refine own_go st412 ?_
      clear st412 X0 e0
      replace N0 := Fr.app N0 Nc427
      clear Nc427
      have ne428 : ls ≠ w413 := Nat.ne_of_lt (Nat.lt_of_lt_of_le fp0.lt hb417)
      have big429 : Z.heap.size ≤ w413 := Nat.le_trans O0.1 hb417
      have sz430 : h0.size ≤ w413 := Nat.le_trans K0.1 hb417
      have sz431 : hs1.size ≤ w413 := Nat.le_trans K1.1 hb417
      have ne432 : ls ≠ w414 := Nat.ne_of_lt (Nat.lt_of_lt_of_le fp0.lt hb418)
      have big433 : Z.heap.size ≤ w414 := Nat.le_trans O0.1 hb418
      have sz434 : h0.size ≤ w414 := Nat.le_trans K0.1 hb418
      have sz435 : hs1.size ≤ w414 := Nat.le_trans K1.1 hb418
      replace fp0 := fp0.keep Kc426
      replace fp1 := fp1.keep Kc426 nin0
      replace fp2 := fp2.keep Kc426 nin0
      replace fp3 := fp3.keep Kc426 nin0
      replace O0 := own_oldKeep O0 Kc426 all0
      replace K0 := K0.trans Kc426 all0
      replace K1 := K1.trans Kc426 all0
      clear Kc426
      show own_Go p e below s _ _ _ (T412.setTop (mkF m 79 #[iv p1, iv p2, iv p3, iv p4, iv p5, iv p6, iv nn, iv sv0, iv sv1, iv sv2, iv sp, rv ls, iv c12, iv c13, iv c14, .unset, .unset, .unset] [(.ref w413), (.ref ls)]))
      obtain ⟨v436, T436, L436, X436, hQ436, st436⟩ := own_callV (y := (⟨"java/util/ArrayList", "add", "(Ljava/lang/Object;)Z"⟩ : MethodName)) (z := (⟨"java/util/ArrayList", "add", "(Ljava/lang/Object;)Z"⟩ : MethodName)) X412 hx hZ hown (ow145 hw) (ow146 hw) (notFace_of_selects (args := #[]) (mvT hZ (ow148 hw))) (ow148 hw) (ow147 hw) (ow3 hw) (ow149 hw) (rm_add1_0 l Z a0 hw oDE oDV [] ls w413 mc T412.heap O0 fp0 fp1 fp2 fp3 (Ins.of_exa f419 (ow172 hw)) big_ls) 0 1 10 (by show _ ≤ 48; omega) (by show _ ≤ 256; omega) (rfl : T412.heap = T412.heap) fp0 (g := (mkF m 79 #[iv p1, iv p2, iv p3, iv p4, iv p5, iv p6, iv nn, iv sv0, iv sv1, iv sv2, iv sp, rv ls, iv c12, iv c13, iv c14, .unset, .unset, .unset] [(.ref w413), (.ref ls)])) rfl (by rw [hml]; rfl) [(.ref w413)] [] (lenOf own_pd_16 rfl) rfl rfl (hb hby at_79)
      obtain ⟨w437, w438, rfl, Nc447, Kc446, hb439, f440, f441, f442, f443, f444, f445⟩ := hQ436
      refine own_go st436 ?_
      clear st436 X412
      replace N0 := Fr.app N0 Nc447
      clear Nc447
      have ne448 : ls ≠ w437 := Nat.ne_of_lt (Nat.lt_of_lt_of_le fp0.lt hb439)
      have ne449 : w413 ≠ w437 := Nat.ne_of_lt (Nat.lt_of_lt_of_le f419.lt hb439)
      have ne450 : w414 ≠ w437 := Nat.ne_of_lt (Nat.lt_of_lt_of_le f425.lt hb439)
      have big451 : Z.heap.size ≤ w437 := Nat.le_trans O0.1 hb439
      have sz452 : h0.size ≤ w437 := Nat.le_trans K0.1 hb439
      have sz453 : hs1.size ≤ w437 := Nat.le_trans K1.1 hb439
      replace fp0 := fp0.keep Kc446
      clear fp1
      clear fp2
      clear fp3
      replace f419 := f419.keep Kc446
      replace f420 := f420.keep Kc446 (ninS ne428.symm nin0)
      replace f421 := f421.keep Kc446 (ninS ne428.symm nin0)
      replace f422 := f422.keep Kc446 (ninS ne428.symm nin0)
      replace f423 := f423.keep Kc446 (ninS ne428.symm nin0)
      replace f424 := f424.keep Kc446 (ninS ne428.symm nin0)
      replace f425 := f425.keep Kc446 (ninS ne432.symm nin0)
      replace O0 := own_oldKeep O0 Kc446 (allS big_ls all0)
      replace K0 := K0.trans Kc446 (allS (Or.inr sz_ls) all0)
      replace K1 := K1.trans Kc446 (allS (Or.inl (List.mem_of_getElem? (i := 0) rfl)) all0)
      clear Kc446
      refine own_go (fun _ k => XS.pop X436.here hx rfl (hb hby at_82) rfl rfl k) ?_
      refine own_go (fun _ k => XS.iload X436.here hx rfl (hb hby at_83) rfl k) ?_
      refine own_go (fun _ k => XS.iload X436.here hx rfl (hb hby at_85) rfl k) ?_
      refine own_go (fun _ k => XS.ifNo X436.here hx rfl (hb hby at_87) rfl ((if0 _ _).trans (teq hp416).2) k) ?_
      refine own_go (fun _ k => XS.iconst X436.here hx rfl (hb hby at_90) k) ?_
      refine own_go (fun _ k => XS.goto X436.here hx rfl (pc0 := 91) (pc' := 95) rfl (hb hby at_91) (by decide) (by decide) k) ?_
      show own_Go p e below s _ _ _ (T436.setTop (mkF m 95 #[iv p1, iv p2, iv p3, iv p4, iv p5, iv p6, iv nn, iv sv0, iv sv1, iv sv2, iv sp, rv ls, iv c12, iv c13, iv c14, .unset, .unset, .unset] [(.int (1 : Int32)), (.int c12)]))
      obtain ⟨v454, T454, L454, X454, hQ454, st454⟩ := own_callS (y := (⟨"com/example/nudo/nudo/LoadingResultVehiclesExitedPinLaw", "is", "(Z)I"⟩ : MethodName)) X436 hx hZ hown (ow173 hw) (ow174 hw) (ow107 hw) (ow175 hw) (rm_is1 l Z a0 hw oDE oDV []  T436.heap O0) 1 0 0 (by show _ ≤ 48; omega) (by show _ ≤ 256; omega) (rfl : T436.heap = T436.heap) (g := (mkF m 95 #[iv p1, iv p2, iv p3, iv p4, iv p5, iv p6, iv nn, iv sv0, iv sv1, iv sv2, iv sp, rv ls, iv c12, iv c13, iv c14, .unset, .unset, .unset] [(.int (1 : Int32)), (.int c12)])) rfl (by rw [hml]; rfl) [(.int (1 : Int32))] [(.int c12)] (lenOf own_pd_17 rfl) rfl rfl (hb hby at_95)
      obtain ⟨rfl, Nc456, Kc455⟩ := hQ454
      refine own_go st454 ?_
      clear st454 X436
      replace N0 := Fr.app N0 Nc456
      clear Nc456
      refine own_go (fun _ k => XS.iadd X454.here hx rfl (hb hby at_98) rfl k) ?_
      refine own_go (fun _ k => XS.istore X454.here hx rfl (hb hby at_99) rfl (l' := #[iv p1, iv p2, iv p3, iv p4, iv p5, iv p6, iv nn, iv sv0, iv sv1, iv sv2, iv sp, rv ls, iv (c12 + (1 : Int32)), iv c13, iv c14, .unset, .unset, .unset]) rfl k) ?_
      refine own_go (fun _ k => XS.iload X454.here hx rfl (hb hby at_101) rfl k) ?_
      refine own_go (fun _ k => XS.iload X454.here hx rfl (hb hby at_103) rfl k) ?_
      refine own_go (fun _ k => XS.iconst X454.here hx rfl (hb hby at_105) k) ?_
      refine own_go (fun _ k => XS.icmpYes X454.here hx rfl (pc0 := 106) (pc' := 113) rfl (hb hby at_106) rfl (feq (by rw [hp416]; decide)).2 (by decide) (by decide) k) ?_
      show own_Go p e below s _ _ _ (T454.setTop (mkF m 113 #[iv p1, iv p2, iv p3, iv p4, iv p5, iv p6, iv nn, iv sv0, iv sv1, iv sv2, iv sp, rv ls, iv (c12 + (1 : Int32)), iv c13, iv c14, .unset, .unset, .unset] [(.int c13)]))
      refine own_go (fun _ k => XS.iconst X454.here hx rfl (hb hby at_113) k) ?_
      obtain ⟨v457, T457, L457, X457, hQ457, st457⟩ := own_callS (y := (⟨"com/example/nudo/nudo/LoadingResultVehiclesExitedPinLaw", "is", "(Z)I"⟩ : MethodName)) X454 hx hZ hown (ow173 hw) (ow174 hw) (ow107 hw) (ow175 hw) (rm_is0 l Z a0 hw oDE oDV []  T436.heap O0) 1 0 0 (by show _ ≤ 48; omega) (by show _ ≤ 256; omega) Kc455 (g := (mkF m 114 #[iv p1, iv p2, iv p3, iv p4, iv p5, iv p6, iv nn, iv sv0, iv sv1, iv sv2, iv sp, rv ls, iv (c12 + (1 : Int32)), iv c13, iv c14, .unset, .unset, .unset] [(.int (0 : Int32)), (.int c13)])) rfl (by rw [hml]; rfl) [(.int (0 : Int32))] [(.int c13)] (lenOf own_pd_17 rfl) rfl rfl (hb hby at_114)
      obtain ⟨rfl, Nc459, Kc458⟩ := hQ457
      refine own_go st457 ?_
      clear st457 X454 Kc455
      replace N0 := Fr.app N0 Nc459
      clear Nc459
      refine own_go (fun _ k => XS.iadd X457.here hx rfl (hb hby at_117) rfl k) ?_
      refine own_go (fun _ k => XS.istore X457.here hx rfl (hb hby at_118) rfl (l' := #[iv p1, iv p2, iv p3, iv p4, iv p5, iv p6, iv nn, iv sv0, iv sv1, iv sv2, iv sp, rv ls, iv (c12 + (1 : Int32)), iv (c13 + (0 : Int32)), iv c14, .unset, .unset, .unset]) rfl k) ?_
      refine own_go (fun _ k => XS.iload X457.here hx rfl (hb hby at_120) rfl k) ?_
      refine own_go (fun _ k => XS.iload X457.here hx rfl (hb hby at_122) rfl k) ?_
      refine own_go (fun _ k => XS.iconst X457.here hx rfl (hb hby at_124) k) ?_
      show own_Go p e below s _ _ _ (T457.setTop (mkF m 125 #[iv p1, iv p2, iv p3, iv p4, iv p5, iv p6, iv nn, iv sv0, iv sv1, iv sv2, iv sp, rv ls, iv (c12 + (1 : Int32)), iv (c13 + (0 : Int32)), iv c14, .unset, .unset, .unset] [(.int (2 : Int32)), (.int sv0), (.int c14)]))
      refine own_go (fun _ k => XS.icmpYes X457.here hx rfl (pc0 := 125) (pc' := 132) rfl (hb hby at_125) rfl (feq (by rw [hp416]; decide)).2 (by decide) (by decide) k) ?_
      refine own_go (fun _ k => XS.iconst X457.here hx rfl (hb hby at_132) k) ?_
      obtain ⟨v460, T460, L460, X460, hQ460, st460⟩ := own_callS (y := (⟨"com/example/nudo/nudo/LoadingResultVehiclesExitedPinLaw", "is", "(Z)I"⟩ : MethodName)) X457 hx hZ hown (ow173 hw) (ow174 hw) (ow107 hw) (ow175 hw) (rm_is0 l Z a0 hw oDE oDV []  T436.heap O0) 1 0 0 (by show _ ≤ 48; omega) (by show _ ≤ 256; omega) Kc458 (g := (mkF m 133 #[iv p1, iv p2, iv p3, iv p4, iv p5, iv p6, iv nn, iv sv0, iv sv1, iv sv2, iv sp, rv ls, iv (c12 + (1 : Int32)), iv (c13 + (0 : Int32)), iv c14, .unset, .unset, .unset] [(.int (0 : Int32)), (.int c14)])) rfl (by rw [hml]; rfl) [(.int (0 : Int32))] [(.int c14)] (lenOf own_pd_17 rfl) rfl rfl (hb hby at_133)
      obtain ⟨rfl, Nc462, Kc461⟩ := hQ460
      refine own_go st460 ?_
      clear st460 X457 Kc458
      replace N0 := Fr.app N0 Nc462
      clear Nc462
      refine own_go (fun _ k => XS.iadd X460.here hx rfl (hb hby at_136) rfl k) ?_
      refine own_go (fun _ k => XS.istore X460.here hx rfl (hb hby at_137) rfl (l' := #[iv p1, iv p2, iv p3, iv p4, iv p5, iv p6, iv nn, iv sv0, iv sv1, iv sv2, iv sp, rv ls, iv (c12 + (1 : Int32)), iv (c13 + (0 : Int32)), iv (c14 + (0 : Int32)), .unset, .unset, .unset]) rfl k) ?_
      show own_Go p e below s _ _ _ (T460.setTop (mkF m 139 #[iv p1, iv p2, iv p3, iv p4, iv p5, iv p6, iv nn, iv sv0, iv sv1, iv sv2, iv sp, rv ls, iv (c12 + (1 : Int32)), iv (c13 + (0 : Int32)), iv (c14 + (0 : Int32)), .unset, .unset, .unset] []))
      exact sg_s139_1 hw oDE oDV p1 p2 p3 p4 p5 p6 nn sv0 sv1 sv2 sp ls (c12 + (1 : Int32)) (c13 + (0 : Int32)) (c14 + (0 : Int32)) (mc + (1 : Int32)) w437 w438 w413 sp w414 w415 h0 T436.heap X460 hx hby hml hret hlk hZ hown hnm Kc461 N0 O0 K0 f440 f441 f442 f443 f444 f445 f419 f420 f421 f422 f423 f424 f425 big_ls sz_ls big451 sz452 hc411 (own_RA hR (by simp) hsp) hsp hv0 hv1 hv2 (by omega) (by omega)
    · obtain ⟨w463, w464, w465, rfl, Nc477, hp466, Kc476, hb467, hb468, f469, f470, f471, f472, f473, f474, f475⟩ := hQ412
      refine own_go st412 ?_
      clear st412 X0 e0
      replace N0 := Fr.app N0 Nc477
      clear Nc477
      have ne478 : ls ≠ w463 := Nat.ne_of_lt (Nat.lt_of_lt_of_le fp0.lt hb467)
      have big479 : Z.heap.size ≤ w463 := Nat.le_trans O0.1 hb467
      have sz480 : h0.size ≤ w463 := Nat.le_trans K0.1 hb467
      have sz481 : hs1.size ≤ w463 := Nat.le_trans K1.1 hb467
      have ne482 : ls ≠ w464 := Nat.ne_of_lt (Nat.lt_of_lt_of_le fp0.lt hb468)
      have big483 : Z.heap.size ≤ w464 := Nat.le_trans O0.1 hb468
      have sz484 : h0.size ≤ w464 := Nat.le_trans K0.1 hb468
      have sz485 : hs1.size ≤ w464 := Nat.le_trans K1.1 hb468
      replace fp0 := fp0.keep Kc476
      replace fp1 := fp1.keep Kc476 nin0
      replace fp2 := fp2.keep Kc476 nin0
      replace fp3 := fp3.keep Kc476 nin0
      replace O0 := own_oldKeep O0 Kc476 all0
      replace K0 := K0.trans Kc476 all0
      replace K1 := K1.trans Kc476 all0
      clear Kc476
      show own_Go p e below s _ _ _ (T412.setTop (mkF m 79 #[iv p1, iv p2, iv p3, iv p4, iv p5, iv p6, iv nn, iv sv0, iv sv1, iv sv2, iv sp, rv ls, iv c12, iv c13, iv c14, .unset, .unset, .unset] [(.ref w463), (.ref ls)]))
      obtain ⟨v486, T486, L486, X486, hQ486, st486⟩ := own_callV (y := (⟨"java/util/ArrayList", "add", "(Ljava/lang/Object;)Z"⟩ : MethodName)) (z := (⟨"java/util/ArrayList", "add", "(Ljava/lang/Object;)Z"⟩ : MethodName)) X412 hx hZ hown (ow145 hw) (ow146 hw) (notFace_of_selects (args := #[]) (mvT hZ (ow148 hw))) (ow148 hw) (ow147 hw) (ow3 hw) (ow149 hw) (rm_add1_0 l Z a0 hw oDE oDV [] ls w463 mc T412.heap O0 fp0 fp1 fp2 fp3 (Ins.of_exa f469 (ow172 hw)) big_ls) 0 1 10 (by show _ ≤ 48; omega) (by show _ ≤ 256; omega) (rfl : T412.heap = T412.heap) fp0 (g := (mkF m 79 #[iv p1, iv p2, iv p3, iv p4, iv p5, iv p6, iv nn, iv sv0, iv sv1, iv sv2, iv sp, rv ls, iv c12, iv c13, iv c14, .unset, .unset, .unset] [(.ref w463), (.ref ls)])) rfl (by rw [hml]; rfl) [(.ref w463)] [] (lenOf own_pd_16 rfl) rfl rfl (hb hby at_79)
      obtain ⟨w487, w488, rfl, Nc497, Kc496, hb489, f490, f491, f492, f493, f494, f495⟩ := hQ486
      refine own_go st486 ?_
      clear st486 X412
      replace N0 := Fr.app N0 Nc497
      clear Nc497
      have ne498 : ls ≠ w487 := Nat.ne_of_lt (Nat.lt_of_lt_of_le fp0.lt hb489)
      have ne499 : w463 ≠ w487 := Nat.ne_of_lt (Nat.lt_of_lt_of_le f469.lt hb489)
      have ne500 : w464 ≠ w487 := Nat.ne_of_lt (Nat.lt_of_lt_of_le f475.lt hb489)
      have big501 : Z.heap.size ≤ w487 := Nat.le_trans O0.1 hb489
      have sz502 : h0.size ≤ w487 := Nat.le_trans K0.1 hb489
      have sz503 : hs1.size ≤ w487 := Nat.le_trans K1.1 hb489
      replace fp0 := fp0.keep Kc496
      clear fp1
      clear fp2
      clear fp3
      replace f469 := f469.keep Kc496
      replace f470 := f470.keep Kc496 (ninS ne478.symm nin0)
      replace f471 := f471.keep Kc496 (ninS ne478.symm nin0)
      replace f472 := f472.keep Kc496 (ninS ne478.symm nin0)
      replace f473 := f473.keep Kc496 (ninS ne478.symm nin0)
      replace f474 := f474.keep Kc496 (ninS ne478.symm nin0)
      replace f475 := f475.keep Kc496 (ninS ne482.symm nin0)
      replace O0 := own_oldKeep O0 Kc496 (allS big_ls all0)
      replace K0 := K0.trans Kc496 (allS (Or.inr sz_ls) all0)
      replace K1 := K1.trans Kc496 (allS (Or.inl (List.mem_of_getElem? (i := 0) rfl)) all0)
      clear Kc496
      refine own_go (fun _ k => XS.pop X486.here hx rfl (hb hby at_82) rfl rfl k) ?_
      refine own_go (fun _ k => XS.iload X486.here hx rfl (hb hby at_83) rfl k) ?_
      refine own_go (fun _ k => XS.iload X486.here hx rfl (hb hby at_85) rfl k) ?_
      refine own_go (fun _ k => XS.ifYes X486.here hx rfl (pc0 := 87) (pc' := 94) rfl (hb hby at_87) rfl ((if0 _ _).trans (feq hp466).2) (by decide) (by decide) k) ?_
      refine own_go (fun _ k => XS.iconst X486.here hx rfl (hb hby at_94) k) ?_
      obtain ⟨v504, T504, L504, X504, hQ504, st504⟩ := own_callS (y := (⟨"com/example/nudo/nudo/LoadingResultVehiclesExitedPinLaw", "is", "(Z)I"⟩ : MethodName)) X486 hx hZ hown (ow173 hw) (ow174 hw) (ow107 hw) (ow175 hw) (rm_is0 l Z a0 hw oDE oDV []  T486.heap O0) 1 0 0 (by show _ ≤ 48; omega) (by show _ ≤ 256; omega) (rfl : T486.heap = T486.heap) (g := (mkF m 95 #[iv p1, iv p2, iv p3, iv p4, iv p5, iv p6, iv nn, iv sv0, iv sv1, iv sv2, iv sp, rv ls, iv c12, iv c13, iv c14, .unset, .unset, .unset] [(.int (0 : Int32)), (.int c12)])) rfl (by rw [hml]; rfl) [(.int (0 : Int32))] [(.int c12)] (lenOf own_pd_17 rfl) rfl rfl (hb hby at_95)
      obtain ⟨rfl, Nc506, Kc505⟩ := hQ504
      refine own_go st504 ?_
      clear st504 X486
      replace N0 := Fr.app N0 Nc506
      clear Nc506
      show own_Go p e below s _ _ _ (T504.setTop (mkF m 98 #[iv p1, iv p2, iv p3, iv p4, iv p5, iv p6, iv nn, iv sv0, iv sv1, iv sv2, iv sp, rv ls, iv c12, iv c13, iv c14, .unset, .unset, .unset] [(.int (0 : Int32)), (.int c12)]))
      refine own_go (fun _ k => XS.iadd X504.here hx rfl (hb hby at_98) rfl k) ?_
      refine own_go (fun _ k => XS.istore X504.here hx rfl (hb hby at_99) rfl (l' := #[iv p1, iv p2, iv p3, iv p4, iv p5, iv p6, iv nn, iv sv0, iv sv1, iv sv2, iv sp, rv ls, iv (c12 + (0 : Int32)), iv c13, iv c14, .unset, .unset, .unset]) rfl k) ?_
      refine own_go (fun _ k => XS.iload X504.here hx rfl (hb hby at_101) rfl k) ?_
      refine own_go (fun _ k => XS.iload X504.here hx rfl (hb hby at_103) rfl k) ?_
      refine own_go (fun _ k => XS.iconst X504.here hx rfl (hb hby at_105) k) ?_
      by_cases hc507 : sv0 = (1 : Int32)
      · refine own_go (fun _ k => XS.icmpNo X504.here hx rfl (hb hby at_106) rfl (teq hc507).2 k) ?_
        show own_Go p e below s _ _ _ (T504.setTop (mkF m 109 #[iv p1, iv p2, iv p3, iv p4, iv p5, iv p6, iv nn, iv sv0, iv sv1, iv sv2, iv sp, rv ls, iv (c12 + (0 : Int32)), iv c13, iv c14, .unset, .unset, .unset] [(.int c13)]))
        refine own_go (fun _ k => XS.iconst X504.here hx rfl (hb hby at_109) k) ?_
        refine own_go (fun _ k => XS.goto X504.here hx rfl (pc0 := 110) (pc' := 114) rfl (hb hby at_110) (by decide) (by decide) k) ?_
        obtain ⟨v508, T508, L508, X508, hQ508, st508⟩ := own_callS (y := (⟨"com/example/nudo/nudo/LoadingResultVehiclesExitedPinLaw", "is", "(Z)I"⟩ : MethodName)) X504 hx hZ hown (ow173 hw) (ow174 hw) (ow107 hw) (ow175 hw) (rm_is1 l Z a0 hw oDE oDV []  T486.heap O0) 1 0 0 (by show _ ≤ 48; omega) (by show _ ≤ 256; omega) Kc505 (g := (mkF m 114 #[iv p1, iv p2, iv p3, iv p4, iv p5, iv p6, iv nn, iv sv0, iv sv1, iv sv2, iv sp, rv ls, iv (c12 + (0 : Int32)), iv c13, iv c14, .unset, .unset, .unset] [(.int (1 : Int32)), (.int c13)])) rfl (by rw [hml]; rfl) [(.int (1 : Int32))] [(.int c13)] (lenOf own_pd_17 rfl) rfl rfl (hb hby at_114)
        obtain ⟨rfl, Nc510, Kc509⟩ := hQ508
        refine own_go st508 ?_
        clear st508 X504 Kc505
        replace N0 := Fr.app N0 Nc510
        clear Nc510
        refine own_go (fun _ k => XS.iadd X508.here hx rfl (hb hby at_117) rfl k) ?_
        refine own_go (fun _ k => XS.istore X508.here hx rfl (hb hby at_118) rfl (l' := #[iv p1, iv p2, iv p3, iv p4, iv p5, iv p6, iv nn, iv sv0, iv sv1, iv sv2, iv sp, rv ls, iv (c12 + (0 : Int32)), iv (c13 + (1 : Int32)), iv c14, .unset, .unset, .unset]) rfl k) ?_
        refine own_go (fun _ k => XS.iload X508.here hx rfl (hb hby at_120) rfl k) ?_
        refine own_go (fun _ k => XS.iload X508.here hx rfl (hb hby at_122) rfl k) ?_
        show own_Go p e below s _ _ _ (T508.setTop (mkF m 124 #[iv p1, iv p2, iv p3, iv p4, iv p5, iv p6, iv nn, iv sv0, iv sv1, iv sv2, iv sp, rv ls, iv (c12 + (0 : Int32)), iv (c13 + (1 : Int32)), iv c14, .unset, .unset, .unset] [(.int sv0), (.int c14)]))
        refine own_go (fun _ k => XS.iconst X508.here hx rfl (hb hby at_124) k) ?_
        refine own_go (fun _ k => XS.icmpYes X508.here hx rfl (pc0 := 125) (pc' := 132) rfl (hb hby at_125) rfl (feq (by rw [hc507]; decide)).2 (by decide) (by decide) k) ?_
        refine own_go (fun _ k => XS.iconst X508.here hx rfl (hb hby at_132) k) ?_
        obtain ⟨v511, T511, L511, X511, hQ511, st511⟩ := own_callS (y := (⟨"com/example/nudo/nudo/LoadingResultVehiclesExitedPinLaw", "is", "(Z)I"⟩ : MethodName)) X508 hx hZ hown (ow173 hw) (ow174 hw) (ow107 hw) (ow175 hw) (rm_is0 l Z a0 hw oDE oDV []  T486.heap O0) 1 0 0 (by show _ ≤ 48; omega) (by show _ ≤ 256; omega) Kc509 (g := (mkF m 133 #[iv p1, iv p2, iv p3, iv p4, iv p5, iv p6, iv nn, iv sv0, iv sv1, iv sv2, iv sp, rv ls, iv (c12 + (0 : Int32)), iv (c13 + (1 : Int32)), iv c14, .unset, .unset, .unset] [(.int (0 : Int32)), (.int c14)])) rfl (by rw [hml]; rfl) [(.int (0 : Int32))] [(.int c14)] (lenOf own_pd_17 rfl) rfl rfl (hb hby at_133)
        obtain ⟨rfl, Nc513, Kc512⟩ := hQ511
        refine own_go st511 ?_
        clear st511 X508 Kc509
        replace N0 := Fr.app N0 Nc513
        clear Nc513
        refine own_go (fun _ k => XS.iadd X511.here hx rfl (hb hby at_136) rfl k) ?_
        refine own_go (fun _ k => XS.istore X511.here hx rfl (hb hby at_137) rfl (l' := #[iv p1, iv p2, iv p3, iv p4, iv p5, iv p6, iv nn, iv sv0, iv sv1, iv sv2, iv sp, rv ls, iv (c12 + (0 : Int32)), iv (c13 + (1 : Int32)), iv (c14 + (0 : Int32)), .unset, .unset, .unset]) rfl k) ?_
        show own_Go p e below s _ _ _ (T511.setTop (mkF m 139 #[iv p1, iv p2, iv p3, iv p4, iv p5, iv p6, iv nn, iv sv0, iv sv1, iv sv2, iv sp, rv ls, iv (c12 + (0 : Int32)), iv (c13 + (1 : Int32)), iv (c14 + (0 : Int32)), .unset, .unset, .unset] []))
        exact sg_s139_1 hw oDE oDV p1 p2 p3 p4 p5 p6 nn sv0 sv1 sv2 sp ls (c12 + (0 : Int32)) (c13 + (1 : Int32)) (c14 + (0 : Int32)) (mc + (1 : Int32)) w487 w488 w463 (-1 : Int32) w464 w465 h0 T486.heap X511 hx hby hml hret hlk hZ hown hnm Kc512 N0 O0 K0 f490 f491 f492 f493 f494 f495 f469 f470 f471 f472 f473 f474 f475 big_ls sz_ls big501 sz502 hc411 (own_RB hR (by simp) (by decide)) hsp hv0 hv1 hv2 (by omega) (by omega)
      · refine own_go (fun _ k => XS.icmpYes X504.here hx rfl (pc0 := 106) (pc' := 113) rfl (hb hby at_106) rfl (feq hc507).2 (by decide) (by decide) k) ?_
        show own_Go p e below s _ _ _ (T504.setTop (mkF m 113 #[iv p1, iv p2, iv p3, iv p4, iv p5, iv p6, iv nn, iv sv0, iv sv1, iv sv2, iv sp, rv ls, iv (c12 + (0 : Int32)), iv c13, iv c14, .unset, .unset, .unset] [(.int c13)]))
        refine own_go (fun _ k => XS.iconst X504.here hx rfl (hb hby at_113) k) ?_
        obtain ⟨v514, T514, L514, X514, hQ514, st514⟩ := own_callS (y := (⟨"com/example/nudo/nudo/LoadingResultVehiclesExitedPinLaw", "is", "(Z)I"⟩ : MethodName)) X504 hx hZ hown (ow173 hw) (ow174 hw) (ow107 hw) (ow175 hw) (rm_is0 l Z a0 hw oDE oDV []  T486.heap O0) 1 0 0 (by show _ ≤ 48; omega) (by show _ ≤ 256; omega) Kc505 (g := (mkF m 114 #[iv p1, iv p2, iv p3, iv p4, iv p5, iv p6, iv nn, iv sv0, iv sv1, iv sv2, iv sp, rv ls, iv (c12 + (0 : Int32)), iv c13, iv c14, .unset, .unset, .unset] [(.int (0 : Int32)), (.int c13)])) rfl (by rw [hml]; rfl) [(.int (0 : Int32))] [(.int c13)] (lenOf own_pd_17 rfl) rfl rfl (hb hby at_114)
        obtain ⟨rfl, Nc516, Kc515⟩ := hQ514
        refine own_go st514 ?_
        clear st514 X504 Kc505
        replace N0 := Fr.app N0 Nc516
        clear Nc516
        refine own_go (fun _ k => XS.iadd X514.here hx rfl (hb hby at_117) rfl k) ?_
        refine own_go (fun _ k => XS.istore X514.here hx rfl (hb hby at_118) rfl (l' := #[iv p1, iv p2, iv p3, iv p4, iv p5, iv p6, iv nn, iv sv0, iv sv1, iv sv2, iv sp, rv ls, iv (c12 + (0 : Int32)), iv (c13 + (0 : Int32)), iv c14, .unset, .unset, .unset]) rfl k) ?_
        refine own_go (fun _ k => XS.iload X514.here hx rfl (hb hby at_120) rfl k) ?_
        refine own_go (fun _ k => XS.iload X514.here hx rfl (hb hby at_122) rfl k) ?_
        refine own_go (fun _ k => XS.iconst X514.here hx rfl (hb hby at_124) k) ?_
        show own_Go p e below s _ _ _ (T514.setTop (mkF m 125 #[iv p1, iv p2, iv p3, iv p4, iv p5, iv p6, iv nn, iv sv0, iv sv1, iv sv2, iv sp, rv ls, iv (c12 + (0 : Int32)), iv (c13 + (0 : Int32)), iv c14, .unset, .unset, .unset] [(.int (2 : Int32)), (.int sv0), (.int c14)]))
        refine own_go (fun _ k => XS.icmpNo X514.here hx rfl (hb hby at_125) rfl (teq (own_v3 hv0 hp466 hc507)).2 k) ?_
        refine own_go (fun _ k => XS.iconst X514.here hx rfl (hb hby at_128) k) ?_
        refine own_go (fun _ k => XS.goto X514.here hx rfl (pc0 := 129) (pc' := 133) rfl (hb hby at_129) (by decide) (by decide) k) ?_
        obtain ⟨v517, T517, L517, X517, hQ517, st517⟩ := own_callS (y := (⟨"com/example/nudo/nudo/LoadingResultVehiclesExitedPinLaw", "is", "(Z)I"⟩ : MethodName)) X514 hx hZ hown (ow173 hw) (ow174 hw) (ow107 hw) (ow175 hw) (rm_is1 l Z a0 hw oDE oDV []  T486.heap O0) 1 0 0 (by show _ ≤ 48; omega) (by show _ ≤ 256; omega) Kc515 (g := (mkF m 133 #[iv p1, iv p2, iv p3, iv p4, iv p5, iv p6, iv nn, iv sv0, iv sv1, iv sv2, iv sp, rv ls, iv (c12 + (0 : Int32)), iv (c13 + (0 : Int32)), iv c14, .unset, .unset, .unset] [(.int (1 : Int32)), (.int c14)])) rfl (by rw [hml]; rfl) [(.int (1 : Int32))] [(.int c14)] (lenOf own_pd_17 rfl) rfl rfl (hb hby at_133)
        obtain ⟨rfl, Nc519, Kc518⟩ := hQ517
        refine own_go st517 ?_
        clear st517 X514 Kc515
        replace N0 := Fr.app N0 Nc519
        clear Nc519
        refine own_go (fun _ k => XS.iadd X517.here hx rfl (hb hby at_136) rfl k) ?_
        refine own_go (fun _ k => XS.istore X517.here hx rfl (hb hby at_137) rfl (l' := #[iv p1, iv p2, iv p3, iv p4, iv p5, iv p6, iv nn, iv sv0, iv sv1, iv sv2, iv sp, rv ls, iv (c12 + (0 : Int32)), iv (c13 + (0 : Int32)), iv (c14 + (1 : Int32)), .unset, .unset, .unset]) rfl k) ?_
        show own_Go p e below s _ _ _ (T517.setTop (mkF m 139 #[iv p1, iv p2, iv p3, iv p4, iv p5, iv p6, iv nn, iv sv0, iv sv1, iv sv2, iv sp, rv ls, iv (c12 + (0 : Int32)), iv (c13 + (0 : Int32)), iv (c14 + (1 : Int32)), .unset, .unset, .unset] []))
        exact sg_s139_1 hw oDE oDV p1 p2 p3 p4 p5 p6 nn sv0 sv1 sv2 sp ls (c12 + (0 : Int32)) (c13 + (0 : Int32)) (c14 + (1 : Int32)) (mc + (1 : Int32)) w487 w488 w463 (-1 : Int32) w464 w465 h0 T486.heap X517 hx hby hml hret hlk hZ hown hnm Kc518 N0 O0 K0 f490 f491 f492 f493 f494 f495 f469 f470 f471 f472 f473 f474 f475 big_ls sz_ls big501 sz502 hc411 (own_RC hR (by simp) (by decide)) hsp hv0 hv1 hv2 (by omega) (by omega)
  · refine own_go (fun _ k => XS.ifYes X0.here hx rfl (pc0 := 65) (pc' := 139) rfl (hb hby at_65) rfl ((if0 _ _).trans (flt hc411).2.2.2) (by decide) (by decide) k) ?_
    show own_Go p e below s _ _ _ (T.setTop (mkF m 139 #[iv p1, iv p2, iv p3, iv p4, iv p5, iv p6, iv nn, iv sv0, iv sv1, iv sv2, iv sp, rv ls, iv c12, iv c13, iv c14, .unset, .unset, .unset] []))
    refine own_go (fun _ k => XS.iload X0.here hx rfl (hb hby at_139) rfl k) ?_
    refine own_go (fun _ k => XS.iconst X0.here hx rfl (hb hby at_141) k) ?_
    refine own_go (fun _ k => XS.icmpYes X0.here hx rfl (pc0 := 142) (pc' := 216) rfl (hb hby at_142) rfl (flt (own_ltk hc411 (by decide))).2.2.2 (by decide) (by decide) k) ?_
    show own_Go p e below s _ _ _ (T.setTop (mkF m 216 #[iv p1, iv p2, iv p3, iv p4, iv p5, iv p6, iv nn, iv sv0, iv sv1, iv sv2, iv sp, rv ls, iv c12, iv c13, iv c14, .unset, .unset, .unset] []))
    refine own_go (fun _ k => XS.iload X0.here hx rfl (hb hby at_216) rfl k) ?_
    refine own_go (fun _ k => XS.iconst X0.here hx rfl (hb hby at_218) k) ?_
    refine own_go (fun _ k => XS.icmpYes X0.here hx rfl (pc0 := 219) (pc' := 293) rfl (hb hby at_219) rfl (flt (own_ltk hc411 (by decide))).2.2.2 (by decide) (by decide) k) ?_
    show own_Go p e below s _ _ _ (T.setTop (mkF m 293 #[iv p1, iv p2, iv p3, iv p4, iv p5, iv p6, iv nn, iv sv0, iv sv1, iv sv2, iv sp, rv ls, iv c12, iv c13, iv c14, .unset, .unset, .unset] []))
    exact sg_s293_0 hw oDE oDV p1 p2 p3 p4 p5 p6 nn sv0 sv1 sv2 sp ls c12 c13 c14 mc h0 hs1 X0 hx hby hml hret hlk hZ hown hnm e0 N0 O0 K0 fp0 fp1 fp2 fp3 big_ls sz_ls hc411 (own_ltk hc411 (by decide)) (own_ltk hc411 (by decide)) hR (by omega) (by omega)
set_option maxRecDepth 65536 in
set_option maxHeartbeats 40000000 in
theorem sg_s14 {l : Launch} {Z : State} {a0 : Array Value} (hw : ∀ d ∈ tables_1, d.before a0 Z = true) {wd : Addr} {kd : ClassId} (oDE : Sta Z Z.heap "java/util/ArrayList" "DEFAULTCAPACITY_EMPTY_ELEMENTDATA" "[Ljava/lang/Object;" (.ref wd)) (oDV : Arv Z Z.heap wd kd (.object "java/lang/Object") (0 : Int32) [] .null) {p : Program} {e : Env} {s : State} {m : MethodId} {args : Array Value} {below : List Frame} {meth : Method} {c : Code} {T : State} {locs : List Loc} {cells slots : Nat} (p1 : Int32) (p2 : Int32) (p3 : Int32) (p4 : Int32) (p5 : Int32) (p6 : Int32) (nn : Int32) (h0 hs1 : Heap)
    (X0 : Stand p l e room_1 s m args below meth c T locs cells slots) (hx : p.tables.exec = Jvm.exec) (hby : c.code = code) (hml : c.maxLocals = 18) (hret : meth.sig.returnType = some .boolean) (hlk : meth.locks = false) (hZ : Z.Warmed39 s.vm) (hown : s.vm.findClass "com/example/nudo/nudo/LoadingResultVehiclesExitedPinLaw" = some m.cls) (hnm : meth.name = "law") (e0 : T.heap = hs1) (N0 : Fr Z.heap.size locs) (O0 : Ext Z.heap hs1) (K0 : Keep h0 hs1 []) (hcells : cells ≤ 0) (hslots : slots ≤ 0) :
    own_Go p e below s (Q_law Z wd kd p1 p2 p3 p4 p5 p6 h0) room_1.cells room_1.slots (T.setTop (mkF m 14 #[iv p1, iv p2, iv p3, iv p4, iv p5, iv p6, iv nn, .unset, .unset, .unset, .unset, .unset, .unset, .unset, .unset, .unset, .unset, .unset] [])) := by
  have K1 := Keep.refl hs1 []
  show own_Go p e below s _ _ _ (T.setTop (mkF m 14 #[iv p1, iv p2, iv p3, iv p4, iv p5, iv p6, iv nn, .unset, .unset, .unset, .unset, .unset, .unset, .unset, .unset, .unset, .unset, .unset] []))
  refine own_go (fun _ k => XS.iloadN X0.here hx rfl (hb hby at_14) rfl k) ?_
  refine own_go (fun _ k => XS.iconst X0.here hx rfl (hb hby at_15) k) ?_
  refine own_go (fun _ k => XS.iand X0.here hx rfl (hb hby at_16) rfl k) ?_
  refine own_go (fun _ k => XS.iconst X0.here hx rfl (hb hby at_17) k) ?_
  refine own_go (fun _ k => iremM X0 hx rfl (hb hby at_18) rfl (by decide : ¬ ((3 : Int32) = (0 : Int32))) k) ?_
  refine own_go (fun _ k => XS.istore X0.here hx rfl (hb hby at_19) rfl (l' := #[iv p1, iv p2, iv p3, iv p4, iv p5, iv p6, iv nn, iv ((p2 &&& (3 : Int32)) % (3 : Int32)), .unset, .unset, .unset, .unset, .unset, .unset, .unset, .unset, .unset, .unset]) rfl k) ?_
  refine own_go (fun _ k => XS.iloadN X0.here hx rfl (hb hby at_21) rfl k) ?_
  show own_Go p e below s _ _ _ (T.setTop (mkF m 22 #[iv p1, iv p2, iv p3, iv p4, iv p5, iv p6, iv nn, iv ((p2 &&& (3 : Int32)) % (3 : Int32)), .unset, .unset, .unset, .unset, .unset, .unset, .unset, .unset, .unset, .unset] [(.int p2)]))
  refine own_go (fun _ k => XS.iconst X0.here hx rfl (hb hby at_22) k) ?_
  refine own_go (fun _ k => XS.iushr X0.here hx rfl (hb hby at_23) rfl k) ?_
  refine own_go (fun _ k => XS.iconst X0.here hx rfl (hb hby at_24) k) ?_
  refine own_go (fun _ k => XS.iand X0.here hx rfl (hb hby at_25) rfl k) ?_
  refine own_go (fun _ k => XS.iconst X0.here hx rfl (hb hby at_26) k) ?_
  refine own_go (fun _ k => iremM X0 hx rfl (hb hby at_27) rfl (by decide : ¬ ((3 : Int32) = (0 : Int32))) k) ?_
  refine own_go (fun _ k => XS.istore X0.here hx rfl (hb hby at_28) rfl (l' := #[iv p1, iv p2, iv p3, iv p4, iv p5, iv p6, iv nn, iv ((p2 &&& (3 : Int32)) % (3 : Int32)), iv ((((p2.toUInt32 >>> ((2 : Int32) &&& 31).toUInt32).toInt32) &&& (3 : Int32)) % (3 : Int32)), .unset, .unset, .unset, .unset, .unset, .unset, .unset, .unset, .unset]) rfl k) ?_
  show own_Go p e below s _ _ _ (T.setTop (mkF m 30 #[iv p1, iv p2, iv p3, iv p4, iv p5, iv p6, iv nn, iv ((p2 &&& (3 : Int32)) % (3 : Int32)), iv ((((p2.toUInt32 >>> ((2 : Int32) &&& 31).toUInt32).toInt32) &&& (3 : Int32)) % (3 : Int32)), .unset, .unset, .unset, .unset, .unset, .unset, .unset, .unset, .unset] []))
  refine own_go (fun _ k => XS.iloadN X0.here hx rfl (hb hby at_30) rfl k) ?_
  refine own_go (fun _ k => XS.iconst X0.here hx rfl (hb hby at_31) k) ?_
  refine own_go (fun _ k => XS.iushr X0.here hx rfl (hb hby at_32) rfl k) ?_
  refine own_go (fun _ k => XS.iconst X0.here hx rfl (hb hby at_33) k) ?_
  refine own_go (fun _ k => XS.iand X0.here hx rfl (hb hby at_34) rfl k) ?_
  refine own_go (fun _ k => XS.iconst X0.here hx rfl (hb hby at_35) k) ?_
  refine own_go (fun _ k => iremM X0 hx rfl (hb hby at_36) rfl (by decide : ¬ ((3 : Int32) = (0 : Int32))) k) ?_
  show own_Go p e below s _ _ _ (T.setTop (mkF m 37 #[iv p1, iv p2, iv p3, iv p4, iv p5, iv p6, iv nn, iv ((p2 &&& (3 : Int32)) % (3 : Int32)), iv ((((p2.toUInt32 >>> ((2 : Int32) &&& 31).toUInt32).toInt32) &&& (3 : Int32)) % (3 : Int32)), .unset, .unset, .unset, .unset, .unset, .unset, .unset, .unset, .unset] [(.int ((((p2.toUInt32 >>> ((4 : Int32) &&& 31).toUInt32).toInt32) &&& (3 : Int32)) % (3 : Int32)))]))
  refine own_go (fun _ k => XS.istore X0.here hx rfl (hb hby at_37) rfl (l' := #[iv p1, iv p2, iv p3, iv p4, iv p5, iv p6, iv nn, iv ((p2 &&& (3 : Int32)) % (3 : Int32)), iv ((((p2.toUInt32 >>> ((2 : Int32) &&& 31).toUInt32).toInt32) &&& (3 : Int32)) % (3 : Int32)), iv ((((p2.toUInt32 >>> ((4 : Int32) &&& 31).toUInt32).toInt32) &&& (3 : Int32)) % (3 : Int32)), .unset, .unset, .unset, .unset, .unset, .unset, .unset, .unset]) rfl k) ?_
  refine own_go (fun _ k => XS.iloadN X0.here hx rfl (hb hby at_39) rfl k) ?_
  refine own_go (X0.ldcInt hx hown (mvT hZ (ow0 hw)) (g := (mkF m 40 #[iv p1, iv p2, iv p3, iv p4, iv p5, iv p6, iv nn, iv ((p2 &&& (3 : Int32)) % (3 : Int32)), iv ((((p2.toUInt32 >>> ((2 : Int32) &&& 31).toUInt32).toInt32) &&& (3 : Int32)) % (3 : Int32)), iv ((((p2.toUInt32 >>> ((4 : Int32) &&& 31).toUInt32).toInt32) &&& (3 : Int32)) % (3 : Int32)), .unset, .unset, .unset, .unset, .unset, .unset, .unset, .unset] [(.int p3)])) rfl (hb hby at_40)) ?_
  refine own_go (fun _ k => XS.iand X0.here hx rfl (hb hby at_42) rfl k) ?_
  refine own_go (fun _ k => XS.istore X0.here hx rfl (hb hby at_43) rfl (l' := #[iv p1, iv p2, iv p3, iv p4, iv p5, iv p6, iv nn, iv ((p2 &&& (3 : Int32)) % (3 : Int32)), iv ((((p2.toUInt32 >>> ((2 : Int32) &&& 31).toUInt32).toInt32) &&& (3 : Int32)) % (3 : Int32)), iv ((((p2.toUInt32 >>> ((4 : Int32) &&& 31).toUInt32).toInt32) &&& (3 : Int32)) % (3 : Int32)), iv (p3 &&& (2147483647 : Int32)), .unset, .unset, .unset, .unset, .unset, .unset, .unset]) rfl k) ?_
  obtain ⟨T520, h520, X520, e520, E520, A520, D520, -, st520⟩ := newO X0 hx hZ hown (ow1 hw) (ow2 hw) (ow3 hw) e0 (g := (mkF m 45 #[iv p1, iv p2, iv p3, iv p4, iv p5, iv p6, iv nn, iv ((p2 &&& (3 : Int32)) % (3 : Int32)), iv ((((p2.toUInt32 >>> ((2 : Int32) &&& 31).toUInt32).toInt32) &&& (3 : Int32)) % (3 : Int32)), iv ((((p2.toUInt32 >>> ((4 : Int32) &&& 31).toUInt32).toInt32) &&& (3 : Int32)) % (3 : Int32)), iv (p3 &&& (2147483647 : Int32)), .unset, .unset, .unset, .unset, .unset, .unset, .unset] [])) rfl (hb hby at_45) (by show _ ≤ 48; omega) (by show _ ≤ 256; omega)
  obtain ⟨b520, g520⟩ : ∃ z, z = hs1.size := ⟨_, rfl⟩
  rw [← g520] at A520 D520 st520
  refine own_go st520 ?_
  clear st520 X0 e0
  have ge520 := Nat.le_of_eq g520.symm
  have big521 : Z.heap.size ≤ b520 := Nat.le_trans O0.1 ge520
  have sz522 : h0.size ≤ b520 := Nat.le_trans K0.1 ge520
  have sz523 : hs1.size ≤ b520 := Nat.le_trans K1.1 ge520
  replace O0 := own_oldExt O0 E520
  replace K0 := K0.ext E520
  replace K1 := K1.ext E520
  clear E520
  have f524 : Fld Z h520 b520 "java/util/AbstractList" "modCount" "I" (.int (0 : Int32)) := D520 (Or.inl (ow23 hw)) (ty := .int) own_fd0
  have f525 : Fld Z h520 b520 "java/util/ArrayList" "elementData" "[Ljava/lang/Object;" .null := D520 (Or.inl (ow26 hw)) (ty := (.array (.object "java/lang/Object"))) own_fd1
  have f526 : Fld Z h520 b520 "java/util/ArrayList" "size" "I" (.int (0 : Int32)) := D520 (Or.inl (ow46 hw)) (ty := .int) own_fd0
  refine own_go (fun _ k => XS.dup X520.here hx rfl (hb hby at_48) rfl rfl k) ?_
  show own_Go p e below s _ _ _ (T520.setTop (mkF m 49 #[iv p1, iv p2, iv p3, iv p4, iv p5, iv p6, iv nn, iv ((p2 &&& (3 : Int32)) % (3 : Int32)), iv ((((p2.toUInt32 >>> ((2 : Int32) &&& 31).toUInt32).toInt32) &&& (3 : Int32)) % (3 : Int32)), iv ((((p2.toUInt32 >>> ((4 : Int32) &&& 31).toUInt32).toInt32) &&& (3 : Int32)) % (3 : Int32)), iv (p3 &&& (2147483647 : Int32)), .unset, .unset, .unset, .unset, .unset, .unset, .unset] [(.ref b520), (.ref b520)]))
  obtain ⟨v527, T527, L527, X527, hQ527, st527⟩ := own_callI (y := (⟨"java/util/ArrayList", "<init>", "()V"⟩ : MethodName)) X520 hx hZ hown (ow4 hw) (ow5 hw) (ow3 hw) (ow6 hw) (rm_alinit l Z a0 hw oDE oDV [] b520 h520 O0 A520 f526 f525 f524 big521) 1 0 0 rfl (by show _ ≤ 48; omega) (by show _ ≤ 256; omega) e520 (g := (mkF m 49 #[iv p1, iv p2, iv p3, iv p4, iv p5, iv p6, iv nn, iv ((p2 &&& (3 : Int32)) % (3 : Int32)), iv ((((p2.toUInt32 >>> ((2 : Int32) &&& 31).toUInt32).toInt32) &&& (3 : Int32)) % (3 : Int32)), iv ((((p2.toUInt32 >>> ((4 : Int32) &&& 31).toUInt32).toInt32) &&& (3 : Int32)) % (3 : Int32)), iv (p3 &&& (2147483647 : Int32)), .unset, .unset, .unset, .unset, .unset, .unset, .unset] [(.ref b520), (.ref b520)])) rfl (by rw [hml]; rfl) b520 [] [(.ref b520)] (lenOf own_pd_0 rfl) rfl rfl (hb hby at_49)
  obtain ⟨rfl, Nc533, Kc532, f528, f529, f530, f531⟩ := hQ527
  refine own_go st527 ?_
  clear st527 X520 e520
  replace N0 := Fr.app N0 Nc533
  clear Nc533
  replace A520 := A520.keep Kc532
  clear f524
  clear f525
  clear f526
  replace O0 := own_oldKeep O0 Kc532 (allS big521 all0)
  replace K0 := K0.trans Kc532 (allS (Or.inr sz522) all0)
  replace K1 := K1.trans Kc532 (allS (Or.inr sz523) all0)
  clear Kc532
  refine own_go (fun _ k => XS.astore X527.here hx rfl (hb hby at_52) rfl rfl (l' := #[iv p1, iv p2, iv p3, iv p4, iv p5, iv p6, iv nn, iv ((p2 &&& (3 : Int32)) % (3 : Int32)), iv ((((p2.toUInt32 >>> ((2 : Int32) &&& 31).toUInt32).toInt32) &&& (3 : Int32)) % (3 : Int32)), iv ((((p2.toUInt32 >>> ((4 : Int32) &&& 31).toUInt32).toInt32) &&& (3 : Int32)) % (3 : Int32)), iv (p3 &&& (2147483647 : Int32)), rv b520, .unset, .unset, .unset, .unset, .unset, .unset]) rfl k) ?_
  refine own_go (fun _ k => XS.iconst X527.here hx rfl (hb hby at_54) k) ?_
  refine own_go (fun _ k => XS.istore X527.here hx rfl (hb hby at_55) rfl (l' := #[iv p1, iv p2, iv p3, iv p4, iv p5, iv p6, iv nn, iv ((p2 &&& (3 : Int32)) % (3 : Int32)), iv ((((p2.toUInt32 >>> ((2 : Int32) &&& 31).toUInt32).toInt32) &&& (3 : Int32)) % (3 : Int32)), iv ((((p2.toUInt32 >>> ((4 : Int32) &&& 31).toUInt32).toInt32) &&& (3 : Int32)) % (3 : Int32)), iv (p3 &&& (2147483647 : Int32)), rv b520, iv (0 : Int32), .unset, .unset, .unset, .unset, .unset]) rfl k) ?_
  refine own_go (fun _ k => XS.iconst X527.here hx rfl (hb hby at_57) k) ?_
  refine own_go (fun _ k => XS.istore X527.here hx rfl (hb hby at_58) rfl (l' := #[iv p1, iv p2, iv p3, iv p4, iv p5, iv p6, iv nn, iv ((p2 &&& (3 : Int32)) % (3 : Int32)), iv ((((p2.toUInt32 >>> ((2 : Int32) &&& 31).toUInt32).toInt32) &&& (3 : Int32)) % (3 : Int32)), iv ((((p2.toUInt32 >>> ((4 : Int32) &&& 31).toUInt32).toInt32) &&& (3 : Int32)) % (3 : Int32)), iv (p3 &&& (2147483647 : Int32)), rv b520, iv (0 : Int32), iv (0 : Int32), .unset, .unset, .unset, .unset]) rfl k) ?_
  refine own_go (fun _ k => XS.iconst X527.here hx rfl (hb hby at_60) k) ?_
  show own_Go p e below s _ _ _ (T527.setTop (mkF m 61 #[iv p1, iv p2, iv p3, iv p4, iv p5, iv p6, iv nn, iv ((p2 &&& (3 : Int32)) % (3 : Int32)), iv ((((p2.toUInt32 >>> ((2 : Int32) &&& 31).toUInt32).toInt32) &&& (3 : Int32)) % (3 : Int32)), iv ((((p2.toUInt32 >>> ((4 : Int32) &&& 31).toUInt32).toInt32) &&& (3 : Int32)) % (3 : Int32)), iv (p3 &&& (2147483647 : Int32)), rv b520, iv (0 : Int32), iv (0 : Int32), .unset, .unset, .unset, .unset] [(.int (0 : Int32))]))
  refine own_go (fun _ k => XS.istore X527.here hx rfl (hb hby at_61) rfl (l' := #[iv p1, iv p2, iv p3, iv p4, iv p5, iv p6, iv nn, iv ((p2 &&& (3 : Int32)) % (3 : Int32)), iv ((((p2.toUInt32 >>> ((2 : Int32) &&& 31).toUInt32).toInt32) &&& (3 : Int32)) % (3 : Int32)), iv ((((p2.toUInt32 >>> ((4 : Int32) &&& 31).toUInt32).toInt32) &&& (3 : Int32)) % (3 : Int32)), iv (p3 &&& (2147483647 : Int32)), rv b520, iv (0 : Int32), iv (0 : Int32), iv (0 : Int32), .unset, .unset, .unset]) rfl k) ?_
  show own_Go p e below s _ _ _ (T527.setTop (mkF m 63 #[iv p1, iv p2, iv p3, iv p4, iv p5, iv p6, iv nn, iv ((p2 &&& (3 : Int32)) % (3 : Int32)), iv ((((p2.toUInt32 >>> ((2 : Int32) &&& 31).toUInt32).toInt32) &&& (3 : Int32)) % (3 : Int32)), iv ((((p2.toUInt32 >>> ((4 : Int32) &&& 31).toUInt32).toInt32) &&& (3 : Int32)) % (3 : Int32)), iv (p3 &&& (2147483647 : Int32)), rv b520, iv (0 : Int32), iv (0 : Int32), iv (0 : Int32), .unset, .unset, .unset] []))
  exact sg_s63_0 hw oDE oDV p1 p2 p3 p4 p5 p6 nn ((p2 &&& (3 : Int32)) % (3 : Int32)) ((((p2.toUInt32 >>> ((2 : Int32) &&& 31).toUInt32).toInt32) &&& (3 : Int32)) % (3 : Int32)) ((((p2.toUInt32 >>> ((4 : Int32) &&& 31).toUInt32).toInt32) &&& (3 : Int32)) % (3 : Int32)) (p3 &&& (2147483647 : Int32)) b520 (0 : Int32) (0 : Int32) (0 : Int32) (0 : Int32) h0 T527.heap X527 hx hby hml hret hlk hZ hown hnm (rfl : T527.heap = T527.heap) N0 O0 K0 f528 f529 f530 f531 big521 sz522 own_R0 (own_nn p3) (own_V3m _) (own_V3m _) (own_V3m _) (by omega) (by omega)
theorem ef_law (m : MethodId) (x0 : Int32) (x1 : Int32) (x2 : Int32) (x3 : Int32) (x4 : Int32) (x5 : Int32) : entryFrame m #[(.int x0), (.int x1), (.int x2), (.int x3), (.int x4), (.int x5)] maxLocals = mkF m 0 #[iv x0, iv x1, iv x2, iv x3, iv x4, iv x5, .unset, .unset, .unset, .unset, .unset, .unset, .unset, .unset, .unset, .unset, .unset, .unset] [] := by first | (simp [entryFrame, mkF, argsToLocals, Value.category, maxLocals]; done) | rfl
set_option maxRecDepth 65536 in
set_option maxHeartbeats 40000000 in
theorem rm_law (l : Launch) (Z : State) (a0 : Array Value) (hw : ∀ d ∈ tables_1, d.before a0 Z = true) {wd : Addr} {kd : ClassId} (oDE : Sta Z Z.heap "java/util/ArrayList" "DEFAULTCAPACITY_EMPTY_ELEMENTDATA" "[Ljava/lang/Object;" (.ref wd)) (oDV : Arv Z Z.heap wd kd (.object "java/lang/Object") (0 : Int32) [] .null) (ws : List Jvm.Cond) (p1 : Int32) (p2 : Int32) (p3 : Int32) (p4 : Int32) (p5 : Int32) (p6 : Int32) (h0 : Heap) (O0 : Ext Z.heap h0) :
    own_MF l Z h0 x code maxLocals ret room_1 #[(.int p1), (.int p2), (.int p3), (.int p4), (.int p5), (.int p6)] (Q_law Z wd kd p1 p2 p3 p4 p5 p6 h0) ws := by
  refine own_met (Q := (Q_law Z wd kd p1 p2 p3 p4 p5 p6 h0)) _ _ (plainFor_of_name own_pn_5) ?_
  intro p e s m below meth c T X0 hx hby hml hret hlk hZ hown hnm e0
  replace hown : s.vm.findClass "com/example/nudo/nudo/LoadingResultVehiclesExitedPinLaw" = some m.cls := hown
  replace hnm : meth.name = "law" := hnm
  have hml : c.maxLocals = 18 := hml
  have N0 := Fr.nil Z.heap.size
  have K0 := Keep.refl h0 []
  refine own_go (fun _ k => castTop (ef_law m p1 p2 p3 p4 p5 p6) k) ?_
  show own_Go p e below s _ _ _ (T.setTop (mkF m 0 #[iv p1, iv p2, iv p3, iv p4, iv p5, iv p6, .unset, .unset, .unset, .unset, .unset, .unset, .unset, .unset, .unset, .unset, .unset, .unset] []))
  refine own_go (fun _ k => XS.iloadN X0.here hx rfl (hb hby at_0) rfl k) ?_
  refine own_go (fun _ k => XS.iconst X0.here hx rfl (hb hby at_1) k) ?_
  refine own_go (fun _ k => XS.iand X0.here hx rfl (hb hby at_2) rfl k) ?_
  refine own_go (fun _ k => XS.istore X0.here hx rfl (hb hby at_3) rfl (l' := #[iv p1, iv p2, iv p3, iv p4, iv p5, iv p6, iv (p1 &&& (3 : Int32)), .unset, .unset, .unset, .unset, .unset, .unset, .unset, .unset, .unset, .unset, .unset]) rfl k) ?_
  refine own_go (fun _ k => XS.iload X0.here hx rfl (hb hby at_5) rfl k) ?_
  refine own_go (fun _ k => XS.iconst X0.here hx rfl (hb hby at_7) k) ?_
  by_cases hc534 : (p1 &&& (3 : Int32)) = (3 : Int32)
  · refine own_go (fun _ k => XS.icmpNo X0.here hx rfl (hb hby at_8) rfl (teq hc534).2 k) ?_
    show own_Go p e below s _ _ _ (T.setTop (mkF m 11 #[iv p1, iv p2, iv p3, iv p4, iv p5, iv p6, iv (p1 &&& (3 : Int32)), .unset, .unset, .unset, .unset, .unset, .unset, .unset, .unset, .unset, .unset, .unset] []))
    refine own_go (fun _ k => XS.iconst X0.here hx rfl (hb hby at_11) k) ?_
    refine own_go (fun _ k => XS.istore X0.here hx rfl (hb hby at_12) rfl (l' := #[iv p1, iv p2, iv p3, iv p4, iv p5, iv p6, iv (3 : Int32), .unset, .unset, .unset, .unset, .unset, .unset, .unset, .unset, .unset, .unset, .unset]) rfl k) ?_
    show own_Go p e below s _ _ _ (T.setTop (mkF m 14 #[iv p1, iv p2, iv p3, iv p4, iv p5, iv p6, iv (3 : Int32), .unset, .unset, .unset, .unset, .unset, .unset, .unset, .unset, .unset, .unset, .unset] []))
    exact sg_s14 hw oDE oDV p1 p2 p3 p4 p5 p6 (3 : Int32) h0 h0 X0 hx hby hml hret hlk hZ hown hnm e0 N0 O0 K0 (by omega) (by omega)
  · refine own_go (fun _ k => XS.icmpYes X0.here hx rfl (pc0 := 8) (pc' := 14) rfl (hb hby at_8) rfl (feq hc534).2 (by decide) (by decide) k) ?_
    show own_Go p e below s _ _ _ (T.setTop (mkF m 14 #[iv p1, iv p2, iv p3, iv p4, iv p5, iv p6, iv (p1 &&& (3 : Int32)), .unset, .unset, .unset, .unset, .unset, .unset, .unset, .unset, .unset, .unset, .unset] []))
    exact sg_s14 hw oDE oDV p1 p2 p3 p4 p5 p6 (p1 &&& (3 : Int32)) h0 h0 X0 hx hby hml hret hlk hZ hown hnm e0 N0 O0 K0 (by omega) (by omega)
set_option maxRecDepth 65536 in
set_option maxHeartbeats 40000000 in
theorem comes_1 {Post : Tables → Env → Array Value → State → Outcome → State → Prop} (hpost : ∀ tb e args s v u, (limb_1_1.after args s (.returned v) u = true ∧ limb_1_2.after args s (.returned v) u = true ∧ True) → FrameEnd s (.returned v) u (Jvm.fieldLocs frame_1_writes args s ++ Jvm.arrayLocs frame_1_arrays args s ++ Jvm.staticLocs frame_1_statics s) 48 256 → Post tb e args s (.returned v) u) :
    ArmFor flags0 classFile x code maxLocals ret World_1 tables_1 room_1 Calls_1 rest_1 Pre_1 Post := by
  intro l hfl _ _ p e ha hc hk s m args below hf hA hF happ hP
  obtain ⟨hcalls, hrest, hpre⟩ := hP
  obtain ⟨-, -, -, hnamed, -, -, -, hat⟩ := (Spec.applies_iff hf).mp happ
  obtain ⟨hg, hn⟩ := and_e (Cond.before_iff.mp (show (Jvm.Cond.and given_1 narrow_1).before args s = true from hpre))
  obtain ⟨gA0, gB0⟩ := and_e hg
  obtain ⟨gA1, gB1⟩ := and_e gB0
  obtain ⟨gA2, gB2⟩ := and_e gB1
  obtain ⟨gA3, gB3⟩ := and_e gB2
  obtain ⟨gA4, gB4⟩ := and_e gB3
  obtain ⟨gA5, gB5⟩ := and_e gB4
  obtain ⟨w0, w1, w2, w3, w4, w5, rfl⟩ : ∃ w0 w1 w2 w3 w4 w5 : Value, args = #[w0, w1, w2, w3, w4, w5] := by
    have hs : args.size = 6 := by simpa [Cond.value, given_1] using gA0
    obtain ⟨L⟩ := args
    match L, hs with
    | [w0, w1, w2, w3, w4, w5], _ => exact ⟨w0, w1, w2, w3, w4, w5, rfl⟩
  have hw := fun d (hd : d ∈ tables_1) => atoms_spec (ws := Jvm.Cond.code x code maxLocals ret :: tables_1) hat d (List.mem_cons_of_mem _ hd)
  have hfit : Fit s := fun {y c} hc i hi => by
    obtain ⟨ha, rfl⟩ := Array.getElem?_eq_some_iff.mp hc
    have q := List.all_eq_true.mp ((Array.all_eq_true_iff_forall_mem.mp hF) _ (Array.getElem_mem ha)) i (List.mem_range.mpr hi)
    simpa [Array.getElem?_eq_getElem hi] using q
  obtain ⟨hsets, hown0⟩ := atoms_of _ (rest_1_c_eq ▸ (show rest_1_c.before _ s = true from hrest))
  have hr0 := Cond.before_iff.mp hown0
  obtain ⟨i0, ei0⟩ := is_v gA1
  obtain rfl : w0 = (.int i0) := Option.some.inj ei0
  obtain ⟨i1, ei1⟩ := is_v gA2
  obtain rfl : w1 = (.int i1) := Option.some.inj ei1
  obtain ⟨i2, ei2⟩ := is_v gA3
  obtain rfl : w2 = (.int i2) := Option.some.inj ei2
  obtain ⟨i3, ei3⟩ := is_v gA4
  obtain rfl : w3 = (.int i3) := Option.some.inj ei3
  obtain ⟨i4, ei4⟩ := is_v gA5
  obtain rfl : w4 = (.int i4) := Option.some.inj ei4
  obtain ⟨i5, ei5⟩ := is_v gB5
  obtain rfl : w5 = (.int i5) := Option.some.inj ei5
  have al2 := Cond.before_iff.mp (hsets _ (List.mem_of_getElem? (i := 6) rfl))
  have al4 := Cond.before_iff.mp (hsets _ (List.mem_of_getElem? (i := 8) rfl))
  obtain ⟨wd, ale⟩ := arr_v al2
  obtain ⟨cld, alA⟩ := Arr.start ale al2
  have oDE := Sta.start ale (Or.inr ⟨(ow3 hw), (hsets _ (List.mem_of_getElem? (i := 2) rfl))⟩)
  have aln := own_lenOf ale (alA.fin (Vm.Alike.refl _)) al4
  have oDV : Arv s s.heap wd cld.cls (.object "java/lang/Object") (0 : Int32) [] .null := Arv.start hfit alA aln.1 aln.2 (by decide) rfl trivial
  obtain ⟨n, o, h1, h2, h3, _, L, rfl, ⟨rfl, N, -⟩, hq⟩ := rm_law l s _ hw oDE oDV tables_1 i0 i1 i2 i3 i4 i5  s.heap ⟨Nat.le_refl _, fun _ _ q => q⟩  p e ha hc hk s m _ below hf ((Spec.applies_iff_loose hf).mp happ).1 ⟨rfl, State.Warmed39.refl s, rfl⟩ trivial
  refine ⟨n, _, h1, h2, h3, hpost _ _ _ _ _ _ ⟨Cond.after_iff.mpr rfl, Cond.after_iff.mpr (eq_i res_at (Term.int_eval (1)) rfl), trivial⟩ ⟨hq.1, hq.2.1, (hq.2.2.sift fun y hy => Or.inr (N y hy)).mono (by decide) (by decide)⟩⟩
theorem main_1_1 : Claimed_1_1 := comes_1 fun _ _ _ _ _ _ h hF => ⟨h.1, hF⟩
theorem main_1_2 : Claimed_1_2 := comes_1 fun _ _ _ _ _ _ h hF => ⟨h.2.1, hF⟩
end Jvm.Pilot.@@N@@
namespace Jvm.Pilot.@@N@@
open Jvm Jvm.ClassFile Sem Op Lib Jvm.Free Jvm.Stand Jvm.Pilot.@@N@@.Jvm.D
/-! MADE BY PROGRAM (witnessworld.py) out of the Statement's table words and the real class files: 25 classes; the members and pool entries that the words name. The judged class is class 1, her method 3. -/
namespace start1
open Jvm.ClassFile
def u (s : String) : CpInfo := .utf8 (stringToUtf16 s)
def gap : Nat → List CpInfo → List CpInfo
  | 0, r => r
  | n + 1, r => .unusable :: gap n r
def poolList (es : List (Nat × CpInfo)) (last : Nat) : List CpInfo := es.foldr (fun e r => gap e.1 (e.2 :: r)) (gap last [])
def pool (es : List (Nat × CpInfo)) (last : Nat) : Array CpInfo := ⟨poolList es last⟩
def fileOf (pool : Array CpInfo) (this : Nat) (attrs : Array Attribute := #[]) (ms : Array MethodInfo := #[]) (fl : Nat := 33) (sup : Nat := 0) (ifs : Array Nat := #[]) (fds : Array FieldInfo := #[]) : ClassFile where
  minorVersion := 0
  majorVersion := 65
  constantPool := pool
  accessFlags := fl
  thisClass := this
  superClass := sup
  interfaces := ifs
  fields := fds
  methods := ms
  attributes := attrs
def plain (name : String) (sup : Option ClassId) : Class where
  name := name
  kind := .ordinary
  loader := none
  accessFlags := 33
  super := sup
  interfaces := #[]
  cf := none
  fields := #[]
  methods := #[]
  instanceTypes := #[]
  staticTypes := #[]
  resolved := #[]
  callSites := []
  init := .initialized
  statics := none
  mirror := none

def pool0 : Array CpInfo := pool [(5, u "<init>"), (0, u "()V"), (1, .class_ 10), (1, u "java/lang/Object")] 113

def k0c0 : Code := { maxStack := 0, maxLocals := 1, code := object_method_1_code, exceptionTable := #[], attributes := #[] }
def k0m0 : Method := { name := "<init>", desc := "()V", sig := { parameters := [], returnType := none }, accessFlags := 1, code := some k0c0 }
def k0 : Class := { plain "java/lang/Object" none with
  accessFlags := 33
  interfaces := #[]
  cf := some (fileOf pool0 8 #[] #[{ accessFlags := 1, nameIndex := 5, descriptorIndex := 6, attributes := #[] }] 33 0 #[] #[])
  fields := #[]
  methods := #[k0m0]
  instanceTypes := #[]
  staticTypes := #[]
  resolved := Array.replicate 124 none
  statics := none }

def pool1 : Array CpInfo := pool [(2, .class_ 4), (0, .nameAndType 5 6), (0, u "java/lang/Object"), (0, u "<init>"), (0, u "()V"), (0, .class_ 8), (0, u "com/example/nudo/nudo/Vehicle"), (0, .class_ 10), (0, u "com/example/nudo/nudo/CellLink"), (0, .methodref 7 12), (0, .nameAndType 5 13), (0, u "(II[Lcom/example/nudo/nudo/CellLink;ILcom/example/nudo/nudo/VehicleClass;)V"), (0, .methodref 7 15), (0, .nameAndType 16 17), (0, u "exit"), (0, u "(I)V"), (0, .integer 2147483647), (0, .class_ 20), (0, u "java/util/ArrayList"), (0, .methodref 19 3), (0, .methodref 23 24), (0, .class_ 25), (0, .nameAndType 26 27), (0, u "com/example/nudo/nudo/LoadingResultVehiclesExitedPinLaw"), (0, u "make"), (0, u "(IIII)Lcom/example/nudo/nudo/Vehicle;"), (0, .methodref 19 29), (0, .nameAndType 30 31), (0, u "add"), (0, u "(Ljava/lang/Object;)Z"), (0, .methodref 23 33), (0, .nameAndType 34 35), (0, u "is"), (0, u "(Z)I"), (0, .class_ 37), (0, u "com/example/nudo/nudo/LoadingResult"), (0, .methodref 36 39), (0, .nameAndType 5 40), (0, u "(ILjava/util/List;III)V"), (0, .methodref 36 42), (0, .nameAndType 43 44), (0, u "vehiclesExited"), (0, u "()I"), (0, .methodref 36 46), (0, .nameAndType 47 48), (0, u "exited"), (0, u "(I)Z"), (3, u "law"), (0, u "(IIIIII)Z")] 2

def k1m0 : Method := { name := "<init>", desc := "()V", sig := { parameters := [], returnType := none }, accessFlags := 1, code := none }
def k1c1 : Code := { maxStack := 7, maxLocals := 5, code := method_2_code, exceptionTable := #[], attributes := #[] }
def k1m1 : Method := { name := "make", desc := "(IIII)Lcom/example/nudo/nudo/Vehicle;", sig := { parameters := [.int, .int, .int, .int], returnType := some (.object "com/example/nudo/nudo/Vehicle") }, accessFlags := 10, code := some k1c1 }
def k1c2 : Code := { maxStack := 1, maxLocals := 1, code := method_3_code, exceptionTable := #[], attributes := #[] }
def k1m2 : Method := { name := "is", desc := "(Z)I", sig := { parameters := [.boolean], returnType := some .int }, accessFlags := 10, code := some k1c2 }
def k1c3 : Code := { maxStack := 7, maxLocals := 18, code := code, exceptionTable := #[], attributes := #[] }
def k1m3 : Method := { name := "law", desc := "(IIIIII)Z", sig := { parameters := [.int, .int, .int, .int, .int, .int], returnType := some .boolean }, accessFlags := 9, code := some k1c3 }
def k1 : Class := { plain "com/example/nudo/nudo/LoadingResultVehiclesExitedPinLaw" (some 0) with
  accessFlags := 49
  interfaces := #[]
  cf := some (fileOf pool1 23 #[] #[{ accessFlags := 1, nameIndex := 5, descriptorIndex := 6, attributes := #[] }, { accessFlags := 10, nameIndex := 26, descriptorIndex := 27, attributes := #[] }, { accessFlags := 10, nameIndex := 34, descriptorIndex := 35, attributes := #[] }, { accessFlags := 9, nameIndex := 52, descriptorIndex := 53, attributes := #[] }] 49 2 #[] #[])
  fields := #[]
  methods := #[k1m0, k1m1, k1m2, k1m3]
  instanceTypes := #[]
  staticTypes := #[]
  resolved := Array.replicate 56 none
  statics := none }

def pool2 : Array CpInfo := pool [(8, .class_ 10), (1, u "java/lang/Iterable"), (24, .class_ 36), (0, u "java/lang/Object")] 25

def k2 : Class := { plain "java/lang/Iterable" (some 0) with
  accessFlags := 1537
  interfaces := #[]
  cf := some (fileOf pool2 8 #[] #[] 1537 35 #[] #[])
  fields := #[]
  methods := #[]
  instanceTypes := #[]
  staticTypes := #[]
  resolved := Array.replicate 62 none
  statics := none }

def pool3 : Array CpInfo := pool [(10, .class_ 12), (1, u "java/util/Collection"), (47, .class_ 61), (0, u "java/lang/Object"), (0, .class_ 63), (0, u "java/lang/Iterable")] 51

def k3 : Class := { plain "java/util/Collection" (some 0) with
  accessFlags := 1537
  interfaces := #[2]
  cf := some (fileOf pool3 10 #[] #[] 1537 60 #[62] #[])
  fields := #[]
  methods := #[]
  instanceTypes := #[]
  staticTypes := #[]
  resolved := Array.replicate 115 none
  statics := none }

def pool4 : Array CpInfo := pool [(1, .methodref 2 3), (0, .class_ 4), (0, .nameAndType 5 6), (0, u "java/lang/Object"), (0, u "<init>"), (0, u "()V"), (1, .class_ 10), (1, u "java/util/AbstractCollection"), (66, .class_ 78), (0, u "java/util/Collection")] 81

def k4c0 : Code := { maxStack := 1, maxLocals := 1, code := jdk_22_method_1_code, exceptionTable := #[], attributes := #[] }
def k4m0 : Method := { name := "<init>", desc := "()V", sig := { parameters := [], returnType := none }, accessFlags := 4, code := some k4c0 }
def k4 : Class := { plain "java/util/AbstractCollection" (some 0) with
  accessFlags := 1057
  interfaces := #[3]
  cf := some (fileOf pool4 8 #[] #[{ accessFlags := 4, nameIndex := 5, descriptorIndex := 6, attributes := #[] }] 1057 2 #[77] #[])
  fields := #[]
  methods := #[k4m0]
  instanceTypes := #[]
  staticTypes := #[]
  resolved := Array.replicate 160 none
  statics := none }

def pool5 : Array CpInfo := pool [(8, .class_ 10), (1, u "java/util/SequencedCollection"), (15, .class_ 27), (0, u "java/lang/Object"), (0, .class_ 29), (0, u "java/util/Collection")] 27

def k5 : Class := { plain "java/util/SequencedCollection" (some 0) with
  accessFlags := 1537
  interfaces := #[3]
  cf := some (fileOf pool5 8 #[] #[] 1537 26 #[28] #[])
  fields := #[]
  methods := #[]
  instanceTypes := #[]
  staticTypes := #[]
  resolved := Array.replicate 57 none
  statics := none }

def pool6 : Array CpInfo := pool [(8, .class_ 10), (1, u "java/util/List"), (68, u "size"), (0, u "()I"), (22, .class_ 104), (0, u "java/lang/Object"), (15, .class_ 121), (0, u "java/util/SequencedCollection"), (1, u "iterator"), (0, u "()Ljava/util/Iterator;")] 126

def k6m0 : Method := { name := "size", desc := "()I", sig := { parameters := [], returnType := some .int }, accessFlags := 1025, code := none }
def k6m1 : Method := { name := "iterator", desc := "()Ljava/util/Iterator;", sig := { parameters := [], returnType := some (.object "java/util/Iterator") }, accessFlags := 1025, code := none }
def k6 : Class := { plain "java/util/List" (some 0) with
  accessFlags := 1537
  interfaces := #[5]
  cf := some (fileOf pool6 8 #[] #[{ accessFlags := 1025, nameIndex := 79, descriptorIndex := 80, attributes := #[] }, { accessFlags := 1025, nameIndex := 123, descriptorIndex := 124, attributes := #[] }] 1537 103 #[120] #[])
  fields := #[]
  methods := #[k6m0, k6m1]
  instanceTypes := #[]
  staticTypes := #[]
  resolved := Array.replicate 251 none
  statics := none }

def pool7 : Array CpInfo := pool [(1, .methodref 2 3), (0, .class_ 4), (0, .nameAndType 5 6), (0, u "java/util/AbstractCollection"), (0, u "<init>"), (0, u "()V"), (0, .fieldref 8 9), (0, .class_ 10), (0, .nameAndType 11 12), (0, u "java/util/AbstractList"), (0, u "modCount"), (0, u "I"), (64, .class_ 78), (0, u "java/util/AbstractList$Itr"), (3, .class_ 83), (0, u "java/util/AbstractList$ListItr"), (9, .class_ 94), (0, u "java/util/AbstractList$RandomAccessSubList"), (3, .class_ 99), (0, u "java/util/AbstractList$SubList"), (33, .class_ 134), (0, u "java/util/List"), (73, .class_ 209), (0, u "java/util/AbstractList$SubList$1"), (0, .class_ 211), (0, u "java/util/AbstractList$RandomAccessSpliterator")] 6

def k7c0 : Code := { maxStack := 2, maxLocals := 1, code := jdk_39_method_1_code, exceptionTable := #[], attributes := #[] }
def k7m0 : Method := { name := "<init>", desc := "()V", sig := { parameters := [], returnType := none }, accessFlags := 4, code := some k7c0 }
def k7 : Class := { plain "java/util/AbstractList" (some 4) with
  accessFlags := 1057
  interfaces := #[6]
  cf := some (fileOf pool7 8 #[.nestMembers #[93, 98, 208, 210, 82, 77]] #[{ accessFlags := 4, nameIndex := 5, descriptorIndex := 6, attributes := #[] }] 1057 2 #[133] #[{ accessFlags := 132, nameIndex := 11, descriptorIndex := 12, attributes := #[] }])
  fields := #[{ name := "modCount", type := .int, accessFlags := 132, slot := 0, constantValue := 0 }]
  methods := #[k7m0]
  instanceTypes := #[.int]
  staticTypes := #[]
  resolved := Array.replicate 218 none
  statics := none }

def pool8 : Array CpInfo := pool [(1, .class_ 2), (0, u "java/util/RandomAccess"), (0, .class_ 4), (0, u "java/lang/Object")] 2

def k8 : Class := { plain "java/util/RandomAccess" (some 0) with
  accessFlags := 1537
  interfaces := #[]
  cf := some (fileOf pool8 1 #[] #[] 1537 3 #[] #[])
  fields := #[]
  methods := #[]
  instanceTypes := #[]
  staticTypes := #[]
  resolved := Array.replicate 7 none
  statics := none }

def pool9 : Array CpInfo := pool [(1, .class_ 2), (0, u "java/lang/Cloneable"), (0, .class_ 4), (0, u "java/lang/Object")] 2

def k9 : Class := { plain "java/lang/Cloneable" (some 0) with
  accessFlags := 1537
  interfaces := #[]
  cf := some (fileOf pool9 1 #[] #[] 1537 3 #[] #[])
  fields := #[]
  methods := #[]
  instanceTypes := #[]
  staticTypes := #[]
  resolved := Array.replicate 7 none
  statics := none }

def pool10 : Array CpInfo := pool [(1, .class_ 2), (0, u "java/io/Serializable"), (0, .class_ 4), (0, u "java/lang/Object")] 2

def k10 : Class := { plain "java/io/Serializable" (some 0) with
  accessFlags := 1537
  interfaces := #[]
  cf := some (fileOf pool10 1 #[] #[] 1537 3 #[] #[])
  fields := #[]
  methods := #[]
  instanceTypes := #[]
  staticTypes := #[]
  resolved := Array.replicate 7 none
  statics := none }

def pool11 : Array CpInfo := pool [(1, .methodref 2 3), (0, .class_ 4), (0, .nameAndType 5 6), (0, u "java/util/AbstractList"), (0, u "<init>"), (0, u "()V"), (0, .class_ 8), (0, u "java/lang/Object"), (0, .fieldref 10 11), (0, .class_ 12), (0, .nameAndType 13 14), (0, u "java/util/ArrayList"), (0, u "elementData"), (0, u "[Ljava/lang/Object;"), (2, u "EMPTY_ELEMENTDATA"), (21, .fieldref 10 40), (0, .nameAndType 41 14), (0, u "DEFAULTCAPACITY_EMPTY_ELEMENTDATA"), (5, u "()[Ljava/lang/Object;"), (0, .fieldref 10 49), (0, .nameAndType 50 51), (0, u "size"), (0, u "I"), (11, .fieldref 10 64), (0, .nameAndType 65 51), (0, u "modCount"), (3, .methodref 10 70), (0, .nameAndType 71 72), (0, u "grow"), (0, u "(I)[Ljava/lang/Object;"), (6, .methodref 80 81), (0, .class_ 82), (0, .nameAndType 83 84), (0, u "java/lang/Math"), (0, u "max"), (0, u "(II)I"), (11, u "(Ljava/lang/Object;)Z"), (32, .methodref 10 130), (0, .nameAndType 71 47), (0, .methodref 10 132), (0, .nameAndType 133 134), (0, u "add"), (0, u "(Ljava/lang/Object;[Ljava/lang/Object;I)V"), (13, .class_ 149), (0, u "java/util/List"), (16, u "iterator"), (0, u "()Ljava/util/Iterator;"), (18, u "()I"), (75, .class_ 263), (0, u "java/util/ArrayList$ListItr"), (3, .class_ 268), (0, u "java/util/ArrayList$Itr"), (0, .methodref 267 270), (0, .nameAndType 5 271), (0, u "(Ljava/util/ArrayList;)V"), (4, .class_ 277), (0, u "java/util/ArrayList$SubList"), (12, .class_ 291), (0, u "java/util/ArrayList$ArrayListSpliterator"), (37, .class_ 330), (0, u "java/util/RandomAccess"), (0, .class_ 332), (0, u "java/lang/Cloneable"), (0, .class_ 334), (0, u "java/io/Serializable"), (0, u "serialVersionUID"), (0, u "J"), (3, u "DEFAULT_CAPACITY"), (159, .class_ 501), (0, u "java/util/ArrayList$SubList$2"), (0, .class_ 503), (0, u "java/util/ArrayList$SubList$1")] 5

def k11c0 : Code := { maxStack := 2, maxLocals := 1, code := jdk_38_method_2_code, exceptionTable := #[], attributes := #[] }
def k11m0 : Method := { name := "<init>", desc := "()V", sig := { parameters := [], returnType := none }, accessFlags := 1, code := some k11c0 }
def k11c1 : Code := { maxStack := 4, maxLocals := 4, code := jdk_38_method_6_code, exceptionTable := #[], attributes := #[] }
def k11m1 : Method := { name := "grow", desc := "(I)[Ljava/lang/Object;", sig := { parameters := [.int], returnType := some (.array (.object "java/lang/Object")) }, accessFlags := 2, code := some k11c1 }
def k11c2 : Code := { maxStack := 3, maxLocals := 1, code := jdk_38_method_7_code, exceptionTable := #[], attributes := #[] }
def k11m2 : Method := { name := "grow", desc := "()[Ljava/lang/Object;", sig := { parameters := [], returnType := some (.array (.object "java/lang/Object")) }, accessFlags := 2, code := some k11c2 }
def k11c3 : Code := { maxStack := 1, maxLocals := 1, code := jdk_38_method_8_code, exceptionTable := #[], attributes := #[] }
def k11m3 : Method := { name := "size", desc := "()I", sig := { parameters := [], returnType := some .int }, accessFlags := 1, code := some k11c3 }
def k11c4 : Code := { maxStack := 3, maxLocals := 4, code := jdk_38_method_24_code, exceptionTable := #[], attributes := #[] }
def k11m4 : Method := { name := "add", desc := "(Ljava/lang/Object;[Ljava/lang/Object;I)V", sig := { parameters := [(.object "java/lang/Object"), (.array (.object "java/lang/Object")), .int], returnType := none }, accessFlags := 2, code := some k11c4 }
def k11c5 : Code := { maxStack := 4, maxLocals := 2, code := jdk_38_method_25_code, exceptionTable := #[], attributes := #[] }
def k11m5 : Method := { name := "add", desc := "(Ljava/lang/Object;)Z", sig := { parameters := [(.object "java/lang/Object")], returnType := some .boolean }, accessFlags := 1, code := some k11c5 }
def k11c6 : Code := { maxStack := 3, maxLocals := 1, code := jdk_38_method_55_code, exceptionTable := #[], attributes := #[] }
def k11m6 : Method := { name := "iterator", desc := "()Ljava/util/Iterator;", sig := { parameters := [], returnType := some (.object "java/util/Iterator") }, accessFlags := 1, code := some k11c6 }
def k11 : Class := { plain "java/util/ArrayList" (some 7) with
  accessFlags := 33
  interfaces := #[6, 8, 9, 10]
  cf := some (fileOf pool11 10 #[.nestMembers #[290, 276, 500, 502, 262, 267]] #[{ accessFlags := 1, nameIndex := 5, descriptorIndex := 6, attributes := #[] }, { accessFlags := 2, nameIndex := 71, descriptorIndex := 72, attributes := #[] }, { accessFlags := 2, nameIndex := 71, descriptorIndex := 47, attributes := #[] }, { accessFlags := 1, nameIndex := 50, descriptorIndex := 186, attributes := #[] }, { accessFlags := 2, nameIndex := 133, descriptorIndex := 134, attributes := #[] }, { accessFlags := 1, nameIndex := 133, descriptorIndex := 96, attributes := #[] }, { accessFlags := 1, nameIndex := 166, descriptorIndex := 167, attributes := #[] }] 33 2 #[148, 329, 331, 333] #[{ accessFlags := 26, nameIndex := 335, descriptorIndex := 336, attributes := #[] }, { accessFlags := 26, nameIndex := 340, descriptorIndex := 51, attributes := #[] }, { accessFlags := 26, nameIndex := 17, descriptorIndex := 14, attributes := #[] }, { accessFlags := 26, nameIndex := 41, descriptorIndex := 14, attributes := #[] }, { accessFlags := 128, nameIndex := 13, descriptorIndex := 14, attributes := #[] }, { accessFlags := 2, nameIndex := 50, descriptorIndex := 51, attributes := #[] }])
  fields := #[{ name := "serialVersionUID", type := .long, accessFlags := 26, slot := 0, constantValue := 0 }, { name := "DEFAULT_CAPACITY", type := .int, accessFlags := 26, slot := 1, constantValue := 0 }, { name := "EMPTY_ELEMENTDATA", type := (.array (.object "java/lang/Object")), accessFlags := 26, slot := 2, constantValue := 0 }, { name := "DEFAULTCAPACITY_EMPTY_ELEMENTDATA", type := (.array (.object "java/lang/Object")), accessFlags := 26, slot := 3, constantValue := 0 }, { name := "elementData", type := (.array (.object "java/lang/Object")), accessFlags := 128, slot := 1, constantValue := 0 }, { name := "size", type := .int, accessFlags := 2, slot := 2, constantValue := 0 }]
  methods := #[k11m0, k11m1, k11m2, k11m3, k11m4, k11m5, k11m6]
  instanceTypes := #[.int, (.array (.object "java/lang/Object")), .int]
  staticTypes := #[.long, .int, (.array (.object "java/lang/Object")), (.array (.object "java/lang/Object"))]
  resolved := Array.replicate 509 none
  statics := some 0 }

def pool12 : Array CpInfo := pool [(1, .methodref 2 3), (0, .class_ 4), (0, .nameAndType 5 6), (0, u "java/lang/Object"), (0, u "<init>"), (0, u "()V"), (0, .fieldref 8 9), (0, .class_ 10), (0, .nameAndType 11 12), (0, u "com/example/nudo/nudo/LoadingResult"), (0, u "timeStep"), (0, u "I"), (0, .interfaceMethodref 14 15), (0, .class_ 16), (0, .nameAndType 17 18), (0, u "java/util/List"), (0, u "size"), (0, u "()I"), (0, .fieldref 8 20), (0, .nameAndType 21 22), (0, u "departureSteps"), (0, u "[I"), (0, .fieldref 8 24), (0, .nameAndType 25 22), (0, u "exitSteps"), (0, .fieldref 8 27), (0, .nameAndType 28 22), (0, u "freeFlowSteps"), (0, .class_ 22), (0, .fieldref 8 31), (0, .nameAndType 32 33), (0, u "linkEntrySteps"), (0, u "[[I"), (0, .interfaceMethodref 14 35), (0, .nameAndType 36 37), (0, u "iterator"), (0, u "()Ljava/util/Iterator;"), (0, .interfaceMethodref 39 40), (0, .class_ 41), (0, .nameAndType 42 43), (0, u "java/util/Iterator"), (0, u "hasNext"), (0, u "()Z"), (0, .interfaceMethodref 39 45), (0, .nameAndType 46 47), (0, u "next"), (0, u "()Ljava/lang/Object;"), (0, .class_ 49), (0, u "com/example/nudo/nudo/Vehicle"), (0, .methodref 48 51), (0, .nameAndType 52 18), (0, u "trip"), (0, .methodref 48 54), (0, .nameAndType 55 18), (0, u "departureStep"), (0, .methodref 48 57), (0, .nameAndType 58 18), (0, u "exitStep"), (0, .methodref 48 60), (0, .nameAndType 61 18), (0, u "pathCells"), (0, .methodref 48 63), (0, .nameAndType 64 18), (0, u "linksEntered"), (4, .fieldref 8 70), (0, .nameAndType 71 12), (0, u "endStep"), (0, .fieldref 8 73), (0, .nameAndType 74 12), (0, u "vehiclesWaiting"), (0, .fieldref 8 76), (0, .nameAndType 77 12), (0, u "vehiclesInNetwork"), (13, u "exited"), (0, u "(I)Z"), (16, u "(ILjava/util/List;III)V"), (6, u "vehiclesExited")] 24

def k12c0 : Code := { maxStack := 4, maxLocals := 10, code := prog_30_method_1_code, exceptionTable := #[], attributes := #[] }
def k12m0 : Method := { name := "<init>", desc := "(ILjava/util/List;III)V", sig := { parameters := [.int, (.object "java/util/List"), .int, .int, .int], returnType := none }, accessFlags := 0, code := some k12c0 }
def k12c1 : Code := { maxStack := 2, maxLocals := 1, code := prog_30_method_3_code, exceptionTable := #[], attributes := #[] }
def k12m1 : Method := { name := "vehiclesExited", desc := "()I", sig := { parameters := [], returnType := some .int }, accessFlags := 1, code := some k12c1 }
def k12c2 : Code := { maxStack := 2, maxLocals := 2, code := prog_30_method_6_code, exceptionTable := #[], attributes := #[] }
def k12m2 : Method := { name := "exited", desc := "(I)Z", sig := { parameters := [.int], returnType := some .boolean }, accessFlags := 1, code := some k12c2 }
def k12 : Class := { plain "com/example/nudo/nudo/LoadingResult" (some 0) with
  accessFlags := 49
  interfaces := #[]
  cf := some (fileOf pool12 8 #[] #[{ accessFlags := 0, nameIndex := 5, descriptorIndex := 109, attributes := #[] }, { accessFlags := 1, nameIndex := 116, descriptorIndex := 18, attributes := #[] }, { accessFlags := 1, nameIndex := 91, descriptorIndex := 92, attributes := #[] }] 49 2 #[] #[{ accessFlags := 18, nameIndex := 11, descriptorIndex := 12, attributes := #[] }, { accessFlags := 18, nameIndex := 21, descriptorIndex := 22, attributes := #[] }, { accessFlags := 18, nameIndex := 25, descriptorIndex := 22, attributes := #[] }, { accessFlags := 18, nameIndex := 28, descriptorIndex := 22, attributes := #[] }, { accessFlags := 18, nameIndex := 32, descriptorIndex := 33, attributes := #[] }, { accessFlags := 18, nameIndex := 71, descriptorIndex := 12, attributes := #[] }, { accessFlags := 18, nameIndex := 74, descriptorIndex := 12, attributes := #[] }, { accessFlags := 18, nameIndex := 77, descriptorIndex := 12, attributes := #[] }])
  fields := #[{ name := "timeStep", type := .int, accessFlags := 18, slot := 0, constantValue := 0 }, { name := "departureSteps", type := (.array .int), accessFlags := 18, slot := 1, constantValue := 0 }, { name := "exitSteps", type := (.array .int), accessFlags := 18, slot := 2, constantValue := 0 }, { name := "freeFlowSteps", type := (.array .int), accessFlags := 18, slot := 3, constantValue := 0 }, { name := "linkEntrySteps", type := (.array (.array .int)), accessFlags := 18, slot := 4, constantValue := 0 }, { name := "endStep", type := .int, accessFlags := 18, slot := 5, constantValue := 0 }, { name := "vehiclesWaiting", type := .int, accessFlags := 18, slot := 6, constantValue := 0 }, { name := "vehiclesInNetwork", type := .int, accessFlags := 18, slot := 7, constantValue := 0 }]
  methods := #[k12m0, k12m1, k12m2]
  instanceTypes := #[.int, (.array .int), (.array .int), (.array .int), (.array (.array .int)), .int, .int, .int]
  staticTypes := #[]
  resolved := Array.replicate 141 none
  statics := none }

def pool13 : Array CpInfo := pool [(16, .class_ 18), (1, u "java/util/Iterator"), (0, u "hasNext"), (0, u "()Z"), (2, u "next"), (0, u "()Ljava/lang/Object;"), (6, .class_ 32), (0, u "java/lang/Object")] 20

def k13m0 : Method := { name := "hasNext", desc := "()Z", sig := { parameters := [], returnType := some .boolean }, accessFlags := 1025, code := none }
def k13m1 : Method := { name := "next", desc := "()Ljava/lang/Object;", sig := { parameters := [], returnType := some (.object "java/lang/Object") }, accessFlags := 1025, code := none }
def k13 : Class := { plain "java/util/Iterator" (some 0) with
  accessFlags := 1537
  interfaces := #[]
  cf := some (fileOf pool13 16 #[] #[{ accessFlags := 1025, nameIndex := 19, descriptorIndex := 20, attributes := #[] }, { accessFlags := 1025, nameIndex := 23, descriptorIndex := 24, attributes := #[] }] 1537 31 #[] #[])
  fields := #[]
  methods := #[k13m0, k13m1]
  instanceTypes := #[]
  staticTypes := #[]
  resolved := Array.replicate 53 none
  statics := none }

def pool14 : Array CpInfo := pool [(1, .fieldref 2 3), (0, .class_ 4), (0, .nameAndType 5 6), (0, u "java/util/ArrayList$Itr"), (0, u "this$0"), (0, u "Ljava/util/ArrayList;"), (0, .methodref 8 9), (0, .class_ 10), (0, .nameAndType 11 12), (0, u "java/lang/Object"), (0, u "<init>"), (0, u "()V"), (0, .fieldref 2 14), (0, .nameAndType 15 16), (0, u "lastRet"), (0, u "I"), (0, .fieldref 18 19), (0, .class_ 20), (0, .nameAndType 21 16), (0, u "java/util/ArrayList"), (0, u "modCount"), (0, .fieldref 2 23), (0, .nameAndType 24 16), (0, u "expectedModCount"), (0, .fieldref 2 26), (0, .nameAndType 27 16), (0, u "cursor"), (0, .fieldref 18 29), (0, .nameAndType 30 16), (0, u "size"), (0, .methodref 2 32), (0, .nameAndType 33 12), (0, u "checkForComodification"), (3, .fieldref 18 38), (0, .nameAndType 39 40), (0, u "elementData"), (0, u "[Ljava/lang/Object;"), (28, .class_ 70), (0, u "java/util/Iterator"), (0, u "(Ljava/util/ArrayList;)V"), (8, u "hasNext"), (0, u "()Z"), (1, u "next"), (0, u "()Ljava/lang/Object;")] 19

def k14c0 : Code := { maxStack := 2, maxLocals := 2, code := jdk_49_method_1_code, exceptionTable := #[], attributes := #[] }
def k14m0 : Method := { name := "<init>", desc := "(Ljava/util/ArrayList;)V", sig := { parameters := [(.object "java/util/ArrayList")], returnType := none }, accessFlags := 0, code := some k14c0 }
def k14c1 : Code := { maxStack := 2, maxLocals := 1, code := jdk_49_method_2_code, exceptionTable := #[], attributes := #[] }
def k14m1 : Method := { name := "hasNext", desc := "()Z", sig := { parameters := [], returnType := some .boolean }, accessFlags := 1, code := some k14c1 }
def k14c2 : Code := { maxStack := 4, maxLocals := 3, code := jdk_49_method_3_code, exceptionTable := #[], attributes := #[] }
def k14m2 : Method := { name := "next", desc := "()Ljava/lang/Object;", sig := { parameters := [], returnType := some (.object "java/lang/Object") }, accessFlags := 1, code := some k14c2 }
def k14c3 : Code := { maxStack := 2, maxLocals := 1, code := jdk_49_method_6_code, exceptionTable := #[], attributes := #[] }
def k14m3 : Method := { name := "checkForComodification", desc := "()V", sig := { parameters := [], returnType := none }, accessFlags := 16, code := some k14c3 }
def k14 : Class := { plain "java/util/ArrayList$Itr" (some 0) with
  accessFlags := 32
  interfaces := #[13]
  cf := some (fileOf pool14 2 #[.nestHost 18] #[{ accessFlags := 0, nameIndex := 11, descriptorIndex := 71, attributes := #[] }, { accessFlags := 1, nameIndex := 80, descriptorIndex := 81, attributes := #[] }, { accessFlags := 1, nameIndex := 83, descriptorIndex := 84, attributes := #[] }, { accessFlags := 16, nameIndex := 33, descriptorIndex := 12, attributes := #[] }] 32 8 #[69] #[{ accessFlags := 0, nameIndex := 27, descriptorIndex := 16, attributes := #[] }, { accessFlags := 0, nameIndex := 15, descriptorIndex := 16, attributes := #[] }, { accessFlags := 0, nameIndex := 24, descriptorIndex := 16, attributes := #[] }, { accessFlags := 4112, nameIndex := 5, descriptorIndex := 6, attributes := #[] }])
  fields := #[{ name := "cursor", type := .int, accessFlags := 0, slot := 0, constantValue := 0 }, { name := "lastRet", type := .int, accessFlags := 0, slot := 1, constantValue := 0 }, { name := "expectedModCount", type := .int, accessFlags := 0, slot := 2, constantValue := 0 }, { name := "this$0", type := (.object "java/util/ArrayList"), accessFlags := 4112, slot := 3, constantValue := 0 }]
  methods := #[k14m0, k14m1, k14m2, k14m3]
  instanceTypes := #[.int, .int, .int, (.object "java/util/ArrayList")]
  staticTypes := #[]
  resolved := Array.replicate 104 none
  statics := none }

def pool15 : Array CpInfo := pool [(1, .methodref 2 3), (0, .class_ 4), (0, .nameAndType 5 6), (0, u "java/lang/Object"), (0, u "<init>"), (0, u "()V"), (0, .fieldref 8 9), (0, .class_ 10), (0, .nameAndType 11 12), (0, u "com/example/nudo/nudo/Vehicle"), (0, u "position"), (0, u "I"), (0, .fieldref 8 14), (0, .nameAndType 15 12), (0, u "candidateStep"), (0, .fieldref 8 17), (0, .nameAndType 18 12), (0, u "exitStep"), (0, .fieldref 8 20), (0, .nameAndType 21 12), (0, u "trip"), (0, .fieldref 8 23), (0, .nameAndType 24 12), (0, u "rank"), (0, .fieldref 8 26), (0, .nameAndType 27 28), (0, u "path"), (0, u "[Lcom/example/nudo/nudo/CellLink;"), (0, .fieldref 8 30), (0, .nameAndType 31 12), (0, u "departureStep"), (0, .fieldref 8 33), (0, .nameAndType 34 35), (0, u "vehicleClass"), (0, u "Lcom/example/nudo/nudo/VehicleClass;"), (0, .fieldref 8 37), (0, .nameAndType 38 39), (0, u "linkEntrySteps"), (0, u "[I"), (0, .methodref 41 42), (0, .class_ 43), (0, .nameAndType 44 45), (0, u "java/util/Arrays"), (0, u "fill"), (0, u "([II)V"), (5, u "()I"), (2, u "candidateOrder"), (21, u "FIRST_COME_FIRST_SERVED"), (0, u "Ljava/util/Comparator;"), (2, u "(II[Lcom/example/nudo/nudo/CellLink;ILcom/example/nudo/nudo/VehicleClass;)V"), (3, u "linksEntered"), (2, u "pathCells"), (11, u "(I)V"), (0, u "exit")] 40

def k15c0 : Code := { maxStack := 2, maxLocals := 6, code := prog_49_method_1_code, exceptionTable := #[], attributes := #[] }
def k15m0 : Method := { name := "<init>", desc := "(II[Lcom/example/nudo/nudo/CellLink;ILcom/example/nudo/nudo/VehicleClass;)V", sig := { parameters := [.int, .int, (.array (.object "com/example/nudo/nudo/CellLink")), .int, (.object "com/example/nudo/nudo/VehicleClass")], returnType := none }, accessFlags := 0, code := some k15c0 }
def k15c1 : Code := { maxStack := 1, maxLocals := 1, code := prog_49_method_2_code, exceptionTable := #[], attributes := #[] }
def k15m1 : Method := { name := "trip", desc := "()I", sig := { parameters := [], returnType := some .int }, accessFlags := 0, code := some k15c1 }
def k15c2 : Code := { maxStack := 1, maxLocals := 1, code := prog_49_method_4_code, exceptionTable := #[], attributes := #[] }
def k15m2 : Method := { name := "departureStep", desc := "()I", sig := { parameters := [], returnType := some .int }, accessFlags := 0, code := some k15c2 }
def k15c3 : Code := { maxStack := 2, maxLocals := 1, code := prog_49_method_6_code, exceptionTable := #[], attributes := #[] }
def k15m3 : Method := { name := "linksEntered", desc := "()I", sig := { parameters := [], returnType := some .int }, accessFlags := 0, code := some k15c3 }
def k15c4 : Code := { maxStack := 1, maxLocals := 1, code := prog_49_method_8_code, exceptionTable := #[], attributes := #[] }
def k15m4 : Method := { name := "exitStep", desc := "()I", sig := { parameters := [], returnType := some .int }, accessFlags := 0, code := some k15c4 }
def k15c5 : Code := { maxStack := 2, maxLocals := 6, code := prog_49_method_9_code, exceptionTable := #[], attributes := #[] }
def k15m5 : Method := { name := "pathCells", desc := "()I", sig := { parameters := [], returnType := some .int }, accessFlags := 0, code := some k15c5 }
def k15c6 : Code := { maxStack := 2, maxLocals := 2, code := prog_49_method_17_code, exceptionTable := #[], attributes := #[] }
def k15m6 : Method := { name := "exit", desc := "(I)V", sig := { parameters := [.int], returnType := none }, accessFlags := 0, code := some k15c6 }
def k15 : Class := { plain "com/example/nudo/nudo/Vehicle" (some 0) with
  accessFlags := 48
  interfaces := #[]
  cf := some (fileOf pool15 8 #[] #[{ accessFlags := 0, nameIndex := 5, descriptorIndex := 80, attributes := #[] }, { accessFlags := 0, nameIndex := 21, descriptorIndex := 51, attributes := #[] }, { accessFlags := 0, nameIndex := 31, descriptorIndex := 51, attributes := #[] }, { accessFlags := 0, nameIndex := 84, descriptorIndex := 51, attributes := #[] }, { accessFlags := 0, nameIndex := 18, descriptorIndex := 51, attributes := #[] }, { accessFlags := 0, nameIndex := 87, descriptorIndex := 51, attributes := #[] }, { accessFlags := 0, nameIndex := 100, descriptorIndex := 99, attributes := #[] }] 48 2 #[] #[{ accessFlags := 24, nameIndex := 76, descriptorIndex := 77, attributes := #[] }, { accessFlags := 18, nameIndex := 21, descriptorIndex := 12, attributes := #[] }, { accessFlags := 18, nameIndex := 24, descriptorIndex := 12, attributes := #[] }, { accessFlags := 18, nameIndex := 27, descriptorIndex := 28, attributes := #[] }, { accessFlags := 18, nameIndex := 31, descriptorIndex := 12, attributes := #[] }, { accessFlags := 18, nameIndex := 34, descriptorIndex := 35, attributes := #[] }, { accessFlags := 18, nameIndex := 38, descriptorIndex := 39, attributes := #[] }, { accessFlags := 2, nameIndex := 11, descriptorIndex := 12, attributes := #[] }, { accessFlags := 2, nameIndex := 15, descriptorIndex := 12, attributes := #[] }, { accessFlags := 2, nameIndex := 54, descriptorIndex := 12, attributes := #[] }, { accessFlags := 2, nameIndex := 18, descriptorIndex := 12, attributes := #[] }])
  fields := #[{ name := "FIRST_COME_FIRST_SERVED", type := (.object "java/util/Comparator"), accessFlags := 24, slot := 0, constantValue := 0 }, { name := "trip", type := .int, accessFlags := 18, slot := 0, constantValue := 0 }, { name := "rank", type := .int, accessFlags := 18, slot := 1, constantValue := 0 }, { name := "path", type := (.array (.object "com/example/nudo/nudo/CellLink")), accessFlags := 18, slot := 2, constantValue := 0 }, { name := "departureStep", type := .int, accessFlags := 18, slot := 3, constantValue := 0 }, { name := "vehicleClass", type := (.object "com/example/nudo/nudo/VehicleClass"), accessFlags := 18, slot := 4, constantValue := 0 }, { name := "linkEntrySteps", type := (.array .int), accessFlags := 18, slot := 5, constantValue := 0 }, { name := "position", type := .int, accessFlags := 2, slot := 6, constantValue := 0 }, { name := "candidateStep", type := .int, accessFlags := 2, slot := 7, constantValue := 0 }, { name := "candidateOrder", type := .int, accessFlags := 2, slot := 8, constantValue := 0 }, { name := "exitStep", type := .int, accessFlags := 2, slot := 9, constantValue := 0 }]
  methods := #[k15m0, k15m1, k15m2, k15m3, k15m4, k15m5, k15m6]
  instanceTypes := #[.int, .int, (.array (.object "com/example/nudo/nudo/CellLink")), .int, (.object "com/example/nudo/nudo/VehicleClass"), (.array .int), .int, .int, .int, .int]
  staticTypes := #[(.object "java/util/Comparator")]
  resolved := Array.replicate 141 none
  statics := none }

def pool16 : Array CpInfo := pool [(2, .class_ 4), (1, u "java/lang/Object"), (6, .class_ 13), (1, u "com/example/nudo/nudo/CellLink"), (0, u "cells"), (0, u "Ljava/util/List;"), (5, u "waiting"), (0, u "Ljava/util/ArrayDeque;"), (2, u "link"), (0, u "Lcom/example/nudo/nudo/Link;"), (2, u "classes"), (0, u "Lcom/example/nudo/nudo/VehicleClasses;"), (8, u "storage"), (0, u "D"), (2, u "capacityPerStep"), (14, u "humanWaveRatio"), (5, u "automatedCapacity"), (2, u "automatedWaveRatio"), (16, u "automated"), (0, u "[I"), (2, u "startCounts"), (2, u "capacities"), (0, u "[D"), (2, u "waveRatios"), (6, u "carried"), (8, u "roomCarried"), (2, u "passed"), (56, u "refused"), (0, u "I"), (2, u "candidates"), (2, u "crossable"), (97, u "ROUNDING")] 31

def k16 : Class := { plain "com/example/nudo/nudo/CellLink" (some 0) with
  accessFlags := 48
  interfaces := #[]
  cf := some (fileOf pool16 11 #[] #[] 48 2 #[] #[{ accessFlags := 26, nameIndex := 276, descriptorIndex := 40, attributes := #[] }, { accessFlags := 18, nameIndex := 25, descriptorIndex := 26, attributes := #[] }, { accessFlags := 18, nameIndex := 29, descriptorIndex := 30, attributes := #[] }, { accessFlags := 18, nameIndex := 39, descriptorIndex := 40, attributes := #[] }, { accessFlags := 18, nameIndex := 43, descriptorIndex := 40, attributes := #[] }, { accessFlags := 18, nameIndex := 58, descriptorIndex := 40, attributes := #[] }, { accessFlags := 18, nameIndex := 64, descriptorIndex := 40, attributes := #[] }, { accessFlags := 18, nameIndex := 67, descriptorIndex := 40, attributes := #[] }, { accessFlags := 18, nameIndex := 14, descriptorIndex := 15, attributes := #[] }, { accessFlags := 18, nameIndex := 84, descriptorIndex := 85, attributes := #[] }, { accessFlags := 18, nameIndex := 88, descriptorIndex := 85, attributes := #[] }, { accessFlags := 18, nameIndex := 91, descriptorIndex := 92, attributes := #[] }, { accessFlags := 18, nameIndex := 95, descriptorIndex := 92, attributes := #[] }, { accessFlags := 18, nameIndex := 102, descriptorIndex := 92, attributes := #[] }, { accessFlags := 18, nameIndex := 111, descriptorIndex := 92, attributes := #[] }, { accessFlags := 18, nameIndex := 114, descriptorIndex := 85, attributes := #[] }, { accessFlags := 18, nameIndex := 21, descriptorIndex := 22, attributes := #[] }, { accessFlags := 2, nameIndex := 171, descriptorIndex := 172, attributes := #[] }, { accessFlags := 2, nameIndex := 175, descriptorIndex := 172, attributes := #[] }, { accessFlags := 2, nameIndex := 178, descriptorIndex := 172, attributes := #[] }])
  fields := #[{ name := "ROUNDING", type := .double, accessFlags := 26, slot := 0, constantValue := 0 }, { name := "link", type := (.object "com/example/nudo/nudo/Link"), accessFlags := 18, slot := 0, constantValue := 0 }, { name := "classes", type := (.object "com/example/nudo/nudo/VehicleClasses"), accessFlags := 18, slot := 1, constantValue := 0 }, { name := "storage", type := .double, accessFlags := 18, slot := 2, constantValue := 0 }, { name := "capacityPerStep", type := .double, accessFlags := 18, slot := 3, constantValue := 0 }, { name := "humanWaveRatio", type := .double, accessFlags := 18, slot := 4, constantValue := 0 }, { name := "automatedCapacity", type := .double, accessFlags := 18, slot := 5, constantValue := 0 }, { name := "automatedWaveRatio", type := .double, accessFlags := 18, slot := 6, constantValue := 0 }, { name := "cells", type := (.object "java/util/List"), accessFlags := 18, slot := 7, constantValue := 0 }, { name := "automated", type := (.array .int), accessFlags := 18, slot := 8, constantValue := 0 }, { name := "startCounts", type := (.array .int), accessFlags := 18, slot := 9, constantValue := 0 }, { name := "capacities", type := (.array .double), accessFlags := 18, slot := 10, constantValue := 0 }, { name := "waveRatios", type := (.array .double), accessFlags := 18, slot := 11, constantValue := 0 }, { name := "carried", type := (.array .double), accessFlags := 18, slot := 12, constantValue := 0 }, { name := "roomCarried", type := (.array .double), accessFlags := 18, slot := 13, constantValue := 0 }, { name := "passed", type := (.array .int), accessFlags := 18, slot := 14, constantValue := 0 }, { name := "waiting", type := (.object "java/util/ArrayDeque"), accessFlags := 18, slot := 15, constantValue := 0 }, { name := "refused", type := .int, accessFlags := 2, slot := 16, constantValue := 0 }, { name := "candidates", type := .int, accessFlags := 2, slot := 17, constantValue := 0 }, { name := "crossable", type := .int, accessFlags := 2, slot := 18, constantValue := 0 }]
  methods := #[]
  instanceTypes := #[(.object "com/example/nudo/nudo/Link"), (.object "com/example/nudo/nudo/VehicleClasses"), .double, .double, .double, .double, .double, (.object "java/util/List"), (.array .int), (.array .int), (.array .double), (.array .double), (.array .double), (.array .double), (.array .int), (.object "java/util/ArrayDeque"), .int, .int, .int]
  staticTypes := #[.double]
  resolved := Array.replicate 308 none
  statics := none }

def pool17 : Array CpInfo := pool [(2, .class_ 4), (1, u "java/lang/Object"), (0, u "<init>"), (0, u "()V"), (7, .class_ 16), (1, u "java/util/Arrays"), (57, .class_ 76), (1, u "java/util/Arrays$NaturalOrder"), (36, .class_ 115), (1, u "java/util/Arrays$LegacyMergeSort"), (1, u "Z"), (257, .class_ 376), (0, u "java/util/Arrays$ArrayList"), (68, u "$assertionsDisabled"), (269, u "MIN_ARRAY_SORT_GRAN"), (0, u "I"), (2, u "INSERTIONSORT_THRESHOLD"), (120, u "fill"), (4, u "([II)V"), (129, .class_ 976), (0, u "java/util/Arrays$ArrayItr")] 52

def k17m0 : Method := { name := "<init>", desc := "()V", sig := { parameters := [], returnType := none }, accessFlags := 2, code := none }
def k17c1 : Code := { maxStack := 3, maxLocals := 4, code := jdk_65_method_103_code, exceptionTable := #[], attributes := #[] }
def k17m1 : Method := { name := "fill", desc := "([II)V", sig := { parameters := [(.array .int), .int], returnType := none }, accessFlags := 9, code := some k17c1 }
def k17 : Class := { plain "java/util/Arrays" (some 0) with
  accessFlags := 49
  interfaces := #[]
  cf := some (fileOf pool17 14 #[.nestMembers #[975, 375, 113, 74]] #[{ accessFlags := 2, nameIndex := 5, descriptorIndex := 6, attributes := #[] }, { accessFlags := 9, nameIndex := 840, descriptorIndex := 845, attributes := #[] }] 49 2 #[] #[{ accessFlags := 26, nameIndex := 715, descriptorIndex := 716, attributes := #[] }, { accessFlags := 26, nameIndex := 719, descriptorIndex := 716, attributes := #[] }, { accessFlags := 4120, nameIndex := 445, descriptorIndex := 117, attributes := #[] }])
  fields := #[{ name := "MIN_ARRAY_SORT_GRAN", type := .int, accessFlags := 26, slot := 0, constantValue := 0 }, { name := "INSERTIONSORT_THRESHOLD", type := .int, accessFlags := 26, slot := 1, constantValue := 0 }, { name := "$assertionsDisabled", type := .boolean, accessFlags := 4120, slot := 2, constantValue := 0 }]
  methods := #[k17m0, k17m1]
  instanceTypes := #[]
  staticTypes := #[.int, .int, .boolean]
  resolved := Array.replicate 1029 none
  statics := none }

def pool18 : Array CpInfo := pool [(1, .class_ 2), (0, u "java/lang/Math"), (1, .class_ 6), (1, u "java/lang/Object"), (0, u "<init>"), (0, u "()V"), (89, .class_ 100), (1, u "java/lang/Math$RandomNumberGeneratorHolder"), (71, u "negativeZeroFloatBits"), (0, u "J"), (2, u "negativeZeroDoubleBits"), (21, u "max"), (46, u "$assertionsDisabled"), (0, u "Z"), (88, u "(II)I"), (2, u "twoToTheDoubleScaleDown"), (0, u "D"), (4, u "twoToTheDoubleScaleUp"), (9, u "E"), (3, u "PI"), (2, u "TAU"), (2, u "DEGREES_TO_RADIANS"), (0, u "RADIANS_TO_DEGREES")] 94

def k18m0 : Method := { name := "<init>", desc := "()V", sig := { parameters := [], returnType := none }, accessFlags := 2, code := none }
def k18c1 : Code := { maxStack := 2, maxLocals := 2, code := jdk_29_method_65_code, exceptionTable := #[], attributes := #[] }
def k18m1 : Method := { name := "max", desc := "(II)I", sig := { parameters := [.int, .int], returnType := some .int }, accessFlags := 9, code := some k18c1 }
def k18 : Class := { plain "java/lang/Math" (some 0) with
  accessFlags := 49
  interfaces := #[]
  cf := some (fileOf pool18 1 #[.nestMembers #[98]] #[{ accessFlags := 2, nameIndex := 7, descriptorIndex := 8, attributes := #[] }, { accessFlags := 9, nameIndex := 198, descriptorIndex := 335, attributes := #[] }] 49 4 #[] #[{ accessFlags := 25, nameIndex := 354, descriptorIndex := 339, attributes := #[] }, { accessFlags := 25, nameIndex := 358, descriptorIndex := 339, attributes := #[] }, { accessFlags := 25, nameIndex := 361, descriptorIndex := 339, attributes := #[] }, { accessFlags := 26, nameIndex := 364, descriptorIndex := 339, attributes := #[] }, { accessFlags := 26, nameIndex := 365, descriptorIndex := 339, attributes := #[] }, { accessFlags := 26, nameIndex := 172, descriptorIndex := 173, attributes := #[] }, { accessFlags := 26, nameIndex := 176, descriptorIndex := 173, attributes := #[] }, { accessFlags := 8, nameIndex := 344, descriptorIndex := 339, attributes := #[] }, { accessFlags := 8, nameIndex := 338, descriptorIndex := 339, attributes := #[] }, { accessFlags := 4120, nameIndex := 245, descriptorIndex := 246, attributes := #[] }])
  fields := #[{ name := "E", type := .double, accessFlags := 25, slot := 0, constantValue := 0 }, { name := "PI", type := .double, accessFlags := 25, slot := 1, constantValue := 0 }, { name := "TAU", type := .double, accessFlags := 25, slot := 2, constantValue := 0 }, { name := "DEGREES_TO_RADIANS", type := .double, accessFlags := 26, slot := 3, constantValue := 0 }, { name := "RADIANS_TO_DEGREES", type := .double, accessFlags := 26, slot := 4, constantValue := 0 }, { name := "negativeZeroFloatBits", type := .long, accessFlags := 26, slot := 5, constantValue := 0 }, { name := "negativeZeroDoubleBits", type := .long, accessFlags := 26, slot := 6, constantValue := 0 }, { name := "twoToTheDoubleScaleUp", type := .double, accessFlags := 8, slot := 7, constantValue := 0 }, { name := "twoToTheDoubleScaleDown", type := .double, accessFlags := 8, slot := 8, constantValue := 0 }, { name := "$assertionsDisabled", type := .boolean, accessFlags := 4120, slot := 9, constantValue := 0 }]
  methods := #[k18m0, k18m1]
  instanceTypes := #[]
  staticTypes := #[.double, .double, .double, .double, .double, .long, .long, .double, .double, .boolean]
  resolved := Array.replicate 460 none
  statics := none }

def k19 : Class := { plain "byte" none with kind := .primitive 'B', accessFlags := 0x411 }
def k20 : Class := { plain "[B" (some 0) with kind := .array 19 .byte, interfaces := #[9, 10], accessFlags := 1041 }

def k21 : Class := { plain "int" none with kind := .primitive 'I', accessFlags := 0x411 }
def k22 : Class := { plain "[I" (some 0) with kind := .array 21 .int, interfaces := #[9, 10], accessFlags := 1041 }

def k23 : Class := { plain "[Lcom/example/nudo/nudo/CellLink;" (some 0) with kind := .array 16 (.object "com/example/nudo/nudo/CellLink"), interfaces := #[9, 10], accessFlags := 1041 }

def k24 : Class := { plain "[Ljava/lang/Object;" (some 0) with kind := .array 0 (.object "java/lang/Object"), interfaces := #[9, 10], accessFlags := 1041 }

def k25 : Class := { plain "[[I" (some 0) with kind := .array 22 (.array .int), interfaces := #[9, 10], accessFlags := 1041 }
def heap : Heap := #[{ cls := 11, slots := #[.long 0, .int 0, .ref 1, .ref 2], vm := .statics 11 },
  { cls := 24, slots := #[], vm := .none },
  { cls := 24, slots := #[], vm := .none }]
def classes : Array Class := #[k0, k1, k2, k3, k4, k5, k6, k7, k8, k9, k10, k11, k12, k13, k14, k15, k16, k17, k18, k19, k20, k21, k22, k23, k24, k25]
def interned : List (Array UInt16 × Addr) := []
def slotsUsed : Nat := 4
def theMethod : MethodId := ⟨1, 3⟩
def args0 : Array Value := #[.int 2, .int 1, .int 5, .int 7, .int 1, .int 9]
def aboutOver (below : List Frame) : State where
  vm := { classes := classes, interned := interned.toArray }
  heap := heap
  slotsUsed := slotsUsed
  threads := #[{ frames := .invoking theMethod args0 :: below }]
def below0 : List Frame := [.native { method := ⟨0, 0⟩, args := #[] }]
def about1 : State := aboutOver below0
def p0 : Program := .bare "" "" ""
def e0 : Env := launch0.env 0 0 0
theorem w_frames : about1.frames = Frame.invoking theMethod args0 :: below0 := rfl
set_option maxRecDepth 65536 in
theorem w_args : argsFit about1.vm theMethod args0 = true := by decide +kernel
set_option maxRecDepth 65536 in
theorem w_heap : heapFits about1 = true := by decide +kernel
set_option maxRecDepth 65536 in
theorem w_runnable : about1.curStatus? = some .runnable := by decide +kernel
set_option maxRecDepth 65536 in
theorem w_alone : about1.alone = true := by decide +kernel
set_option maxRecDepth 65536 in
theorem w_named : about1.methodNamed? x = some theMethod := by decide +kernel
set_option maxRecDepth 65536 in
theorem w_hears : about1.hears theMethod below0 = true := by decide +kernel
set_option maxRecDepth 65536 in
theorem w_ripe : about1.ripe theMethod args0 below0 = true := by decide +kernel
theorem w_running : about1.status = .running := rfl
set_option maxRecDepth 65536 in
theorem w_room : about1.hasRoom e0.platform room_1 = true :=
  launch0.hasRoom_least _ room_1 (by decide +kernel) (by decide +kernel) (by decide +kernel) (by decide +kernel) (by decide +kernel) (by decide +kernel)
theorem allAtoms_all (ts : List Jvm.Cond) (a : Array Jvm.Value) (st : Jvm.State) : (allAtoms ts).before a st = ts.all (fun c => c.before a st) := by
  induction ts with
  | nil => rfl
  | cons c t ih =>
    show (Jvm.Cond.and c (allAtoms t)).before a st = _
    rw [Jvm.Cond.before_and, ih, List.all_cons]
def words1 : List Jvm.Cond := Jvm.Cond.code x code maxLocals ret :: tables_1
theorem code_word {y : MethodName} {bytes : ByteArray} {mx : Nat} {rt : Option FieldType} {a : Array Value} {s : State} {m : MethodId} {meth : Method} {c : Code} (h1 : s.methodNamed? y = some m) (h2 : s.vm.method? m = some meth) (h3 : meth.code = some c) (h4 : c.code = bytes)
    (h5 : (c.maxLocals == mx && c.exceptionTable.isEmpty && decide (c.maxStack ≤ mostOperands) && decide (meth.sig.returnType = rt) && !meth.locks && decide (parseMethodDescriptor y.desc = some meth.sig)) = true) : (Jvm.Cond.code y bytes mx rt).before a s = true := by
  simp only [Bool.and_eq_true, beq_iff_eq, Bool.not_eq_true', decide_eq_true_eq] at h5
  obtain ⟨⟨⟨⟨⟨g1, g2⟩, g3⟩, g4⟩, g5⟩, g6⟩ := h5
  simp [Cond.before, Cond.holds, Cond.value, h1, h2, h3, h4, g1, g2, g3, g4, g5, g6]
def isCode : Jvm.Cond → Bool
  | .code _ _ _ _ => true
  | _ => false
theorem all_split {L : List Jvm.Cond} {P : Jvm.Cond → Bool} (h1 : L.all (fun c => isCode c || P c) = true) (h2 : ∀ c ∈ L.filter isCode, P c = true) : L.all P = true := by
  refine List.all_eq_true.mpr fun c hc => ?_
  have h := List.all_eq_true.mp h1 c hc
  rcases Bool.eq_false_or_eq_true (isCode c) with hi | hi
  · exact h2 c (List.mem_filter.mpr ⟨hc, hi⟩)
  · simpa [hi] using h
set_option maxRecDepth 65536 in
theorem w_c0 : (Jvm.Cond.code x code maxLocals ret).before args0 about1 = true := code_word (m := ⟨1, 3⟩) (meth := k1m3) (c := k1c3) (by decide +kernel) rfl rfl rfl (by decide +kernel)
set_option maxRecDepth 65536 in
theorem w_c1 : (Jvm.Cond.code ({ cls := "java/util/ArrayList", name := "<init>", desc := "()V" } : Jvm.MethodName) jdk_38_method_2_code (1 : Nat) (Option.none : Option Jvm.ClassFile.FieldType)).before args0 about1 = true := code_word (m := ⟨11, 0⟩) (meth := k11m0) (c := k11c0) (by decide +kernel) rfl rfl rfl (by decide +kernel)
set_option maxRecDepth 65536 in
theorem w_c2 : (Jvm.Cond.code ({ cls := "java/util/AbstractList", name := "<init>", desc := "()V" } : Jvm.MethodName) jdk_39_method_1_code (1 : Nat) (Option.none : Option Jvm.ClassFile.FieldType)).before args0 about1 = true := code_word (m := ⟨7, 0⟩) (meth := k7m0) (c := k7c0) (by decide +kernel) rfl rfl rfl (by decide +kernel)
set_option maxRecDepth 65536 in
theorem w_c3 : (Jvm.Cond.code ({ cls := "java/util/AbstractCollection", name := "<init>", desc := "()V" } : Jvm.MethodName) jdk_22_method_1_code (1 : Nat) (Option.none : Option Jvm.ClassFile.FieldType)).before args0 about1 = true := code_word (m := ⟨4, 0⟩) (meth := k4m0) (c := k4c0) (by decide +kernel) rfl rfl rfl (by decide +kernel)
set_option maxRecDepth 65536 in
theorem w_c4 : (Jvm.Cond.code ({ cls := "java/lang/Object", name := "<init>", desc := "()V" } : Jvm.MethodName) object_method_1_code (1 : Nat) (Option.none : Option Jvm.ClassFile.FieldType)).before args0 about1 = true := code_word (m := ⟨0, 0⟩) (meth := k0m0) (c := k0c0) (by decide +kernel) rfl rfl rfl (by decide +kernel)
set_option maxRecDepth 65536 in
theorem w_c5 : (Jvm.Cond.code ({ cls := "com/example/nudo/nudo/LoadingResult", name := "<init>", desc := "(ILjava/util/List;III)V" } : Jvm.MethodName) prog_30_method_1_code (10 : Nat) (Option.none : Option Jvm.ClassFile.FieldType)).before args0 about1 = true := code_word (m := ⟨12, 0⟩) (meth := k12m0) (c := k12c0) (by decide +kernel) rfl rfl rfl (by decide +kernel)
set_option maxRecDepth 65536 in
theorem w_c6 : (Jvm.Cond.code ({ cls := "java/util/ArrayList", name := "size", desc := "()I" } : Jvm.MethodName) jdk_38_method_8_code (1 : Nat) (Option.some Jvm.ClassFile.FieldType.int)).before args0 about1 = true := code_word (m := ⟨11, 3⟩) (meth := k11m3) (c := k11c3) (by decide +kernel) rfl rfl rfl (by decide +kernel)
set_option maxRecDepth 65536 in
theorem w_c7 : (Jvm.Cond.code ({ cls := "java/util/ArrayList", name := "iterator", desc := "()Ljava/util/Iterator;" } : Jvm.MethodName) jdk_38_method_55_code (1 : Nat) (Option.some (Jvm.ClassFile.FieldType.object "java/util/Iterator"))).before args0 about1 = true := code_word (m := ⟨11, 6⟩) (meth := k11m6) (c := k11c6) (by decide +kernel) rfl rfl rfl (by decide +kernel)
set_option maxRecDepth 65536 in
theorem w_c8 : (Jvm.Cond.code ({ cls := "java/util/ArrayList$Itr", name := "<init>", desc := "(Ljava/util/ArrayList;)V" } : Jvm.MethodName) jdk_49_method_1_code (2 : Nat) (Option.none : Option Jvm.ClassFile.FieldType)).before args0 about1 = true := code_word (m := ⟨14, 0⟩) (meth := k14m0) (c := k14c0) (by decide +kernel) rfl rfl rfl (by decide +kernel)
set_option maxRecDepth 65536 in
theorem w_c9 : (Jvm.Cond.code ({ cls := "java/util/ArrayList$Itr", name := "hasNext", desc := "()Z" } : Jvm.MethodName) jdk_49_method_2_code (1 : Nat) (Option.some Jvm.ClassFile.FieldType.boolean)).before args0 about1 = true := code_word (m := ⟨14, 1⟩) (meth := k14m1) (c := k14c1) (by decide +kernel) rfl rfl rfl (by decide +kernel)
set_option maxRecDepth 65536 in
theorem w_c10 : (Jvm.Cond.code ({ cls := "com/example/nudo/nudo/LoadingResult", name := "vehiclesExited", desc := "()I" } : Jvm.MethodName) prog_30_method_3_code (1 : Nat) (Option.some Jvm.ClassFile.FieldType.int)).before args0 about1 = true := code_word (m := ⟨12, 1⟩) (meth := k12m1) (c := k12c1) (by decide +kernel) rfl rfl rfl (by decide +kernel)
set_option maxRecDepth 65536 in
theorem w_c11 : (Jvm.Cond.code ({ cls := "com/example/nudo/nudo/LoadingResultVehiclesExitedPinLaw", name := "make", desc := "(IIII)Lcom/example/nudo/nudo/Vehicle;" } : Jvm.MethodName) method_2_code (5 : Nat) (Option.some (Jvm.ClassFile.FieldType.object "com/example/nudo/nudo/Vehicle"))).before args0 about1 = true := code_word (m := ⟨1, 1⟩) (meth := k1m1) (c := k1c1) (by decide +kernel) rfl rfl rfl (by decide +kernel)
set_option maxRecDepth 65536 in
theorem w_c12 : (Jvm.Cond.code ({ cls := "com/example/nudo/nudo/Vehicle", name := "<init>", desc := "(II[Lcom/example/nudo/nudo/CellLink;ILcom/example/nudo/nudo/VehicleClass;)V" } : Jvm.MethodName) prog_49_method_1_code (6 : Nat) (Option.none : Option Jvm.ClassFile.FieldType)).before args0 about1 = true := code_word (m := ⟨15, 0⟩) (meth := k15m0) (c := k15c0) (by decide +kernel) rfl rfl rfl (by decide +kernel)
set_option maxRecDepth 65536 in
theorem w_c13 : (Jvm.Cond.code ({ cls := "java/util/Arrays", name := "fill", desc := "([II)V" } : Jvm.MethodName) jdk_65_method_103_code (4 : Nat) (Option.none : Option Jvm.ClassFile.FieldType)).before args0 about1 = true := code_word (m := ⟨17, 1⟩) (meth := k17m1) (c := k17c1) (by decide +kernel) rfl rfl rfl (by decide +kernel)
set_option maxRecDepth 65536 in
theorem w_c14 : (Jvm.Cond.code ({ cls := "com/example/nudo/nudo/Vehicle", name := "exit", desc := "(I)V" } : Jvm.MethodName) prog_49_method_17_code (2 : Nat) (Option.none : Option Jvm.ClassFile.FieldType)).before args0 about1 = true := code_word (m := ⟨15, 6⟩) (meth := k15m6) (c := k15c6) (by decide +kernel) rfl rfl rfl (by decide +kernel)
set_option maxRecDepth 65536 in
theorem w_c15 : (Jvm.Cond.code ({ cls := "java/util/ArrayList", name := "add", desc := "(Ljava/lang/Object;)Z" } : Jvm.MethodName) jdk_38_method_25_code (2 : Nat) (Option.some Jvm.ClassFile.FieldType.boolean)).before args0 about1 = true := code_word (m := ⟨11, 5⟩) (meth := k11m5) (c := k11c5) (by decide +kernel) rfl rfl rfl (by decide +kernel)
set_option maxRecDepth 65536 in
theorem w_c16 : (Jvm.Cond.code ({ cls := "java/util/ArrayList", name := "add", desc := "(Ljava/lang/Object;[Ljava/lang/Object;I)V" } : Jvm.MethodName) jdk_38_method_24_code (4 : Nat) (Option.none : Option Jvm.ClassFile.FieldType)).before args0 about1 = true := code_word (m := ⟨11, 4⟩) (meth := k11m4) (c := k11c4) (by decide +kernel) rfl rfl rfl (by decide +kernel)
set_option maxRecDepth 65536 in
theorem w_c17 : (Jvm.Cond.code ({ cls := "java/util/ArrayList", name := "grow", desc := "()[Ljava/lang/Object;" } : Jvm.MethodName) jdk_38_method_7_code (1 : Nat) (Option.some (Jvm.ClassFile.FieldType.array (Jvm.ClassFile.FieldType.object "java/lang/Object")))).before args0 about1 = true := code_word (m := ⟨11, 2⟩) (meth := k11m2) (c := k11c2) (by decide +kernel) rfl rfl rfl (by decide +kernel)
set_option maxRecDepth 65536 in
theorem w_c18 : (Jvm.Cond.code ({ cls := "java/util/ArrayList", name := "grow", desc := "(I)[Ljava/lang/Object;" } : Jvm.MethodName) jdk_38_method_6_code (4 : Nat) (Option.some (Jvm.ClassFile.FieldType.array (Jvm.ClassFile.FieldType.object "java/lang/Object")))).before args0 about1 = true := code_word (m := ⟨11, 1⟩) (meth := k11m1) (c := k11c1) (by decide +kernel) rfl rfl rfl (by decide +kernel)
set_option maxRecDepth 65536 in
theorem w_c19 : (Jvm.Cond.code ({ cls := "java/lang/Math", name := "max", desc := "(II)I" } : Jvm.MethodName) jdk_29_method_65_code (2 : Nat) (Option.some Jvm.ClassFile.FieldType.int)).before args0 about1 = true := code_word (m := ⟨18, 1⟩) (meth := k18m1) (c := k18c1) (by decide +kernel) rfl rfl rfl (by decide +kernel)
set_option maxRecDepth 65536 in
theorem w_c20 : (Jvm.Cond.code ({ cls := "com/example/nudo/nudo/LoadingResultVehiclesExitedPinLaw", name := "is", desc := "(Z)I" } : Jvm.MethodName) method_3_code (1 : Nat) (Option.some Jvm.ClassFile.FieldType.int)).before args0 about1 = true := code_word (m := ⟨1, 2⟩) (meth := k1m2) (c := k1c2) (by decide +kernel) rfl rfl rfl (by decide +kernel)
set_option maxRecDepth 65536 in
theorem w_c21 : (Jvm.Cond.code ({ cls := "java/util/ArrayList$Itr", name := "next", desc := "()Ljava/lang/Object;" } : Jvm.MethodName) jdk_49_method_3_code (3 : Nat) (Option.some (Jvm.ClassFile.FieldType.object "java/lang/Object"))).before args0 about1 = true := code_word (m := ⟨14, 2⟩) (meth := k14m2) (c := k14c2) (by decide +kernel) rfl rfl rfl (by decide +kernel)
set_option maxRecDepth 65536 in
theorem w_c22 : (Jvm.Cond.code ({ cls := "java/util/ArrayList$Itr", name := "checkForComodification", desc := "()V" } : Jvm.MethodName) jdk_49_method_6_code (1 : Nat) (Option.none : Option Jvm.ClassFile.FieldType)).before args0 about1 = true := code_word (m := ⟨14, 3⟩) (meth := k14m3) (c := k14c3) (by decide +kernel) rfl rfl rfl (by decide +kernel)
set_option maxRecDepth 65536 in
theorem w_c23 : (Jvm.Cond.code ({ cls := "com/example/nudo/nudo/Vehicle", name := "trip", desc := "()I" } : Jvm.MethodName) prog_49_method_2_code (1 : Nat) (Option.some Jvm.ClassFile.FieldType.int)).before args0 about1 = true := code_word (m := ⟨15, 1⟩) (meth := k15m1) (c := k15c1) (by decide +kernel) rfl rfl rfl (by decide +kernel)
set_option maxRecDepth 65536 in
theorem w_c24 : (Jvm.Cond.code ({ cls := "com/example/nudo/nudo/Vehicle", name := "departureStep", desc := "()I" } : Jvm.MethodName) prog_49_method_4_code (1 : Nat) (Option.some Jvm.ClassFile.FieldType.int)).before args0 about1 = true := code_word (m := ⟨15, 2⟩) (meth := k15m2) (c := k15c2) (by decide +kernel) rfl rfl rfl (by decide +kernel)
set_option maxRecDepth 65536 in
theorem w_c25 : (Jvm.Cond.code ({ cls := "com/example/nudo/nudo/Vehicle", name := "exitStep", desc := "()I" } : Jvm.MethodName) prog_49_method_8_code (1 : Nat) (Option.some Jvm.ClassFile.FieldType.int)).before args0 about1 = true := code_word (m := ⟨15, 4⟩) (meth := k15m4) (c := k15c4) (by decide +kernel) rfl rfl rfl (by decide +kernel)
set_option maxRecDepth 65536 in
theorem w_c26 : (Jvm.Cond.code ({ cls := "com/example/nudo/nudo/Vehicle", name := "pathCells", desc := "()I" } : Jvm.MethodName) prog_49_method_9_code (6 : Nat) (Option.some Jvm.ClassFile.FieldType.int)).before args0 about1 = true := code_word (m := ⟨15, 5⟩) (meth := k15m5) (c := k15c5) (by decide +kernel) rfl rfl rfl (by decide +kernel)
set_option maxRecDepth 65536 in
theorem w_c27 : (Jvm.Cond.code ({ cls := "com/example/nudo/nudo/Vehicle", name := "linksEntered", desc := "()I" } : Jvm.MethodName) prog_49_method_6_code (1 : Nat) (Option.some Jvm.ClassFile.FieldType.int)).before args0 about1 = true := code_word (m := ⟨15, 3⟩) (meth := k15m3) (c := k15c3) (by decide +kernel) rfl rfl rfl (by decide +kernel)
set_option maxRecDepth 65536 in
theorem w_c28 : (Jvm.Cond.code ({ cls := "com/example/nudo/nudo/LoadingResult", name := "exited", desc := "(I)Z" } : Jvm.MethodName) prog_30_method_6_code (2 : Nat) (Option.some Jvm.ClassFile.FieldType.boolean)).before args0 about1 = true := code_word (m := ⟨12, 2⟩) (meth := k12m2) (c := k12c2) (by decide +kernel) rfl rfl rfl (by decide +kernel)
def codes1 : List Jvm.Cond := [Jvm.Cond.code x code maxLocals ret, Jvm.Cond.code ({ cls := "java/util/ArrayList", name := "<init>", desc := "()V" } : Jvm.MethodName) jdk_38_method_2_code (1 : Nat) (Option.none : Option Jvm.ClassFile.FieldType), Jvm.Cond.code ({ cls := "java/util/AbstractList", name := "<init>", desc := "()V" } : Jvm.MethodName) jdk_39_method_1_code (1 : Nat) (Option.none : Option Jvm.ClassFile.FieldType), Jvm.Cond.code ({ cls := "java/util/AbstractCollection", name := "<init>", desc := "()V" } : Jvm.MethodName) jdk_22_method_1_code (1 : Nat) (Option.none : Option Jvm.ClassFile.FieldType), Jvm.Cond.code ({ cls := "java/lang/Object", name := "<init>", desc := "()V" } : Jvm.MethodName) object_method_1_code (1 : Nat) (Option.none : Option Jvm.ClassFile.FieldType), Jvm.Cond.code ({ cls := "com/example/nudo/nudo/LoadingResult", name := "<init>", desc := "(ILjava/util/List;III)V" } : Jvm.MethodName) prog_30_method_1_code (10 : Nat) (Option.none : Option Jvm.ClassFile.FieldType), Jvm.Cond.code ({ cls := "java/util/ArrayList", name := "size", desc := "()I" } : Jvm.MethodName) jdk_38_method_8_code (1 : Nat) (Option.some Jvm.ClassFile.FieldType.int), Jvm.Cond.code ({ cls := "java/util/ArrayList", name := "iterator", desc := "()Ljava/util/Iterator;" } : Jvm.MethodName) jdk_38_method_55_code (1 : Nat) (Option.some (Jvm.ClassFile.FieldType.object "java/util/Iterator")), Jvm.Cond.code ({ cls := "java/util/ArrayList$Itr", name := "<init>", desc := "(Ljava/util/ArrayList;)V" } : Jvm.MethodName) jdk_49_method_1_code (2 : Nat) (Option.none : Option Jvm.ClassFile.FieldType), Jvm.Cond.code ({ cls := "java/util/ArrayList$Itr", name := "hasNext", desc := "()Z" } : Jvm.MethodName) jdk_49_method_2_code (1 : Nat) (Option.some Jvm.ClassFile.FieldType.boolean), Jvm.Cond.code ({ cls := "com/example/nudo/nudo/LoadingResult", name := "vehiclesExited", desc := "()I" } : Jvm.MethodName) prog_30_method_3_code (1 : Nat) (Option.some Jvm.ClassFile.FieldType.int), Jvm.Cond.code ({ cls := "com/example/nudo/nudo/LoadingResultVehiclesExitedPinLaw", name := "make", desc := "(IIII)Lcom/example/nudo/nudo/Vehicle;" } : Jvm.MethodName) method_2_code (5 : Nat) (Option.some (Jvm.ClassFile.FieldType.object "com/example/nudo/nudo/Vehicle")), Jvm.Cond.code ({ cls := "com/example/nudo/nudo/Vehicle", name := "<init>", desc := "(II[Lcom/example/nudo/nudo/CellLink;ILcom/example/nudo/nudo/VehicleClass;)V" } : Jvm.MethodName) prog_49_method_1_code (6 : Nat) (Option.none : Option Jvm.ClassFile.FieldType), Jvm.Cond.code ({ cls := "java/util/Arrays", name := "fill", desc := "([II)V" } : Jvm.MethodName) jdk_65_method_103_code (4 : Nat) (Option.none : Option Jvm.ClassFile.FieldType), Jvm.Cond.code ({ cls := "com/example/nudo/nudo/Vehicle", name := "exit", desc := "(I)V" } : Jvm.MethodName) prog_49_method_17_code (2 : Nat) (Option.none : Option Jvm.ClassFile.FieldType), Jvm.Cond.code ({ cls := "java/util/ArrayList", name := "add", desc := "(Ljava/lang/Object;)Z" } : Jvm.MethodName) jdk_38_method_25_code (2 : Nat) (Option.some Jvm.ClassFile.FieldType.boolean), Jvm.Cond.code ({ cls := "java/util/ArrayList", name := "add", desc := "(Ljava/lang/Object;[Ljava/lang/Object;I)V" } : Jvm.MethodName) jdk_38_method_24_code (4 : Nat) (Option.none : Option Jvm.ClassFile.FieldType), Jvm.Cond.code ({ cls := "java/util/ArrayList", name := "grow", desc := "()[Ljava/lang/Object;" } : Jvm.MethodName) jdk_38_method_7_code (1 : Nat) (Option.some (Jvm.ClassFile.FieldType.array (Jvm.ClassFile.FieldType.object "java/lang/Object"))), Jvm.Cond.code ({ cls := "java/util/ArrayList", name := "grow", desc := "(I)[Ljava/lang/Object;" } : Jvm.MethodName) jdk_38_method_6_code (4 : Nat) (Option.some (Jvm.ClassFile.FieldType.array (Jvm.ClassFile.FieldType.object "java/lang/Object"))), Jvm.Cond.code ({ cls := "java/lang/Math", name := "max", desc := "(II)I" } : Jvm.MethodName) jdk_29_method_65_code (2 : Nat) (Option.some Jvm.ClassFile.FieldType.int), Jvm.Cond.code ({ cls := "com/example/nudo/nudo/LoadingResultVehiclesExitedPinLaw", name := "is", desc := "(Z)I" } : Jvm.MethodName) method_3_code (1 : Nat) (Option.some Jvm.ClassFile.FieldType.int), Jvm.Cond.code ({ cls := "java/util/ArrayList$Itr", name := "next", desc := "()Ljava/lang/Object;" } : Jvm.MethodName) jdk_49_method_3_code (3 : Nat) (Option.some (Jvm.ClassFile.FieldType.object "java/lang/Object")), Jvm.Cond.code ({ cls := "java/util/ArrayList$Itr", name := "checkForComodification", desc := "()V" } : Jvm.MethodName) jdk_49_method_6_code (1 : Nat) (Option.none : Option Jvm.ClassFile.FieldType), Jvm.Cond.code ({ cls := "com/example/nudo/nudo/Vehicle", name := "trip", desc := "()I" } : Jvm.MethodName) prog_49_method_2_code (1 : Nat) (Option.some Jvm.ClassFile.FieldType.int), Jvm.Cond.code ({ cls := "com/example/nudo/nudo/Vehicle", name := "departureStep", desc := "()I" } : Jvm.MethodName) prog_49_method_4_code (1 : Nat) (Option.some Jvm.ClassFile.FieldType.int), Jvm.Cond.code ({ cls := "com/example/nudo/nudo/Vehicle", name := "exitStep", desc := "()I" } : Jvm.MethodName) prog_49_method_8_code (1 : Nat) (Option.some Jvm.ClassFile.FieldType.int), Jvm.Cond.code ({ cls := "com/example/nudo/nudo/Vehicle", name := "pathCells", desc := "()I" } : Jvm.MethodName) prog_49_method_9_code (6 : Nat) (Option.some Jvm.ClassFile.FieldType.int), Jvm.Cond.code ({ cls := "com/example/nudo/nudo/Vehicle", name := "linksEntered", desc := "()I" } : Jvm.MethodName) prog_49_method_6_code (1 : Nat) (Option.some Jvm.ClassFile.FieldType.int), Jvm.Cond.code ({ cls := "com/example/nudo/nudo/LoadingResult", name := "exited", desc := "(I)Z" } : Jvm.MethodName) prog_30_method_6_code (2 : Nat) (Option.some Jvm.ClassFile.FieldType.boolean)]
set_option maxRecDepth 65536 in
theorem codes_eq : words1.filter isCode = codes1 := rfl
theorem w_codes : ∀ c ∈ words1.filter isCode, c.before args0 about1 = true := by
  rw [codes_eq]
  intro c hc
  simp only [codes1, List.mem_cons, List.not_mem_nil, or_false] at hc
  rcases hc with rfl | rfl | rfl | rfl | rfl | rfl | rfl | rfl | rfl | rfl | rfl | rfl | rfl | rfl | rfl | rfl | rfl | rfl | rfl | rfl | rfl | rfl | rfl | rfl | rfl | rfl | rfl | rfl | rfl
  · exact w_c0
  · exact w_c1
  · exact w_c2
  · exact w_c3
  · exact w_c4
  · exact w_c5
  · exact w_c6
  · exact w_c7
  · exact w_c8
  · exact w_c9
  · exact w_c10
  · exact w_c11
  · exact w_c12
  · exact w_c13
  · exact w_c14
  · exact w_c15
  · exact w_c16
  · exact w_c17
  · exact w_c18
  · exact w_c19
  · exact w_c20
  · exact w_c21
  · exact w_c22
  · exact w_c23
  · exact w_c24
  · exact w_c25
  · exact w_c26
  · exact w_c27
  · exact w_c28
set_option maxRecDepth 65536 in
theorem w_t1 : (words1.take 24).all (fun c => isCode c || c.before args0 about1) = true := by decide +kernel
set_option maxRecDepth 65536 in
theorem w_t2 : ((words1.drop 24).take 24).all (fun c => isCode c || c.before args0 about1) = true := by decide +kernel
set_option maxRecDepth 65536 in
theorem w_t3 : (((words1.drop 24).drop 24).take 24).all (fun c => isCode c || c.before args0 about1) = true := by decide +kernel
set_option maxRecDepth 65536 in
theorem w_t4 : ((((words1.drop 24).drop 24).drop 24).take 24).all (fun c => isCode c || c.before args0 about1) = true := by decide +kernel
set_option maxRecDepth 65536 in
theorem w_t5 : (((((words1.drop 24).drop 24).drop 24).drop 24).take 24).all (fun c => isCode c || c.before args0 about1) = true := by decide +kernel
set_option maxRecDepth 65536 in
theorem w_t6 : ((((((words1.drop 24).drop 24).drop 24).drop 24).drop 24).take 24).all (fun c => isCode c || c.before args0 about1) = true := by decide +kernel
set_option maxRecDepth 65536 in
theorem w_t7 : (((((((words1.drop 24).drop 24).drop 24).drop 24).drop 24).drop 24).take 24).all (fun c => isCode c || c.before args0 about1) = true := by decide +kernel
set_option maxRecDepth 65536 in
theorem w_t8 : ((((((((words1.drop 24).drop 24).drop 24).drop 24).drop 24).drop 24).drop 24).take 24).all (fun c => isCode c || c.before args0 about1) = true := by decide +kernel
set_option maxRecDepth 65536 in
theorem w_t9 : (((((((((words1.drop 24).drop 24).drop 24).drop 24).drop 24).drop 24).drop 24).drop 24).take 24).all (fun c => isCode c || c.before args0 about1) = true := by decide +kernel
set_option maxRecDepth 65536 in
theorem w_t10 : (((((((((words1.drop 24).drop 24).drop 24).drop 24).drop 24).drop 24).drop 24).drop 24).drop 24).all (fun c => isCode c || c.before args0 about1) = true := by decide +kernel
theorem w_tables : (allAtoms (Jvm.Cond.code x code maxLocals ret :: tables_1)).before args0 about1 = true := by
  rw [allAtoms_all]
  show words1.all (fun c => c.before args0 about1) = true
  refine all_split ?_ w_codes
  rw [← List.take_append_drop 24 words1, List.all_append, w_t1, ← List.take_append_drop 24 (words1.drop 24), List.all_append, w_t2, ← List.take_append_drop 24 ((words1.drop 24).drop 24), List.all_append, w_t3, ← List.take_append_drop 24 (((words1.drop 24).drop 24).drop 24), List.all_append, w_t4, ← List.take_append_drop 24 ((((words1.drop 24).drop 24).drop 24).drop 24), List.all_append, w_t5, ← List.take_append_drop 24 (((((words1.drop 24).drop 24).drop 24).drop 24).drop 24), List.all_append, w_t6, ← List.take_append_drop 24 ((((((words1.drop 24).drop 24).drop 24).drop 24).drop 24).drop 24), List.all_append, w_t7, ← List.take_append_drop 24 (((((((words1.drop 24).drop 24).drop 24).drop 24).drop 24).drop 24).drop 24), List.all_append, w_t8, ← List.take_append_drop 24 ((((((((words1.drop 24).drop 24).drop 24).drop 24).drop 24).drop 24).drop 24).drop 24), List.all_append, w_t9, w_t10]
  rfl
set_option maxRecDepth 65536 in
theorem w_rest : rest_1_c.before args0 about1 = true := by decide +kernel
set_option maxRecDepth 65536 in
theorem w_case : (Jvm.Cond.and given_1 narrow_1).before args0 about1 = true := by decide +kernel
theorem w_applies : (headSpec (Jvm.Cond.code x code maxLocals ret :: tables_1) room_1).applies x e0.platform about1 = true :=
  (Spec.applies_iff w_frames).mpr ⟨w_running, w_runnable, w_alone, w_named, w_hears, w_ripe, w_room, w_tables⟩
theorem atStart : AtStart classFile x code maxLocals ret World_1 tables_1 room_1 Calls_1 rest_1 Pre_1 launch0 p0 e0 about1 theMethod args0 below0 :=
  ⟨lists_1, trivial, launch0.admits_env _ _ _, launch0.least_env, fairChoices_fair.cas, fairChoices_fair.clock, w_frames, w_args, w_heap, w_applies, trivial, w_rest, w_case⟩
end start1
theorem witness_1 : WitnessClaimed_1 := ⟨start1.p0, start1.e0, start1.about1, start1.theMethod, start1.args0, start1.below0, start1.atStart⟩
end Jvm.Pilot.@@N@@
