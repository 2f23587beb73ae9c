import JvmDerived
import JvmDerived.Pilot.@@N@@Statement
import JvmDerived.Pilot.@@N@@Code
set_option linter.unusedVariables false
set_option linter.unusedSimpArgs false
namespace Jvm.Pilot.@@N@@
open Jvm Jvm.ClassFile Sem Op Lib Jvm.Free Jvm.Stand Jvm.LawKit Jvm.RoadKit Bundle Jvm.Pilot.@@N@@.Jvm.D
section Own
variable {p : Program} {l : Launch} {e : Env} {R : Room} {s : State} {m : MethodId} {args : Array Value} {below : List Frame} {meth : Method} {c : Code} {T : State} {locs : List Loc} {cells slots : Nat} {Z : State} {a0 : Array Value} {h : Heap}
def own_Go (p : Program) (e : Env) (below : List Frame) (P : Outcome → State → Prop) (U : State) : Prop := ∃ s₂ o, Steps p.tables e below U s₂ ∧ s₂.status = .running ∧ Ended s₂ below o ∧ P o s₂
theorem own_st {P : Outcome → State → Prop} {U V : State} (k : ∀ t, Steps p.tables e below U t → Steps p.tables e below V t) (h : own_Go p e below P U) : own_Go p e below P V := by
  obtain ⟨a, b, c, d⟩ := h; exact ⟨a, b, k _ c, d⟩
def own_P (s : State) (Q : Option Value → Heap → List Loc → Prop) (rc rs : Nat) (o : Outcome) (U : State) : Prop := ∃ v L, o = .returned v ∧ Q v U.heap L ∧ FrameEnd s o U L rc rs
theorem own_ret (X : Stand p l e R s m args below meth c T locs cells slots) {Q : Option Value → Heap → List Loc → Prop} {rc rs : Nat} {g : JFrame} {v : Option Value} (hlk : meth.locks = false) (hv : meth.sig.returnType = none → v = none) (hq : Q v T.heap locs) (hc : cells ≤ rc) (hl : slots ≤ rs)
    (k : ∀ fs, (∀ (f : JFrame) (acts : List Action), f.method = m → f.locked = none → f.entered = [] → (doReturn e (T.setTop f) acts v).1 = T.setFrames fs) → Steps p.tables e below (T.setTop g) (T.setFrames fs)) : own_Go p e below (own_P s Q rc rs) (T.setTop g) := by
  obtain ⟨fs, hr, hrun, hended, hW, hsame⟩ := X.leave (v := v) hv hlk
  exact ⟨_, _, k fs hr, hrun, hended, _, _, rfl, hq, ⟨_, rfl⟩, hW, hsame.mono hc hl⟩
theorem own_retV (X : Stand p l e R s m args below meth c T locs cells slots) (hx : p.tables.exec = Jvm.exec) {Q : Option Value → Heap → List Loc → Prop} {rc rs pc : Nat} {Ls : Array Slot} (hlk : meth.locks = false) (hret : meth.sig.returnType = none) (hd : decode c.code pc = .ok (.return_, 1)) (hc : cells ≤ rc) (hl : slots ≤ rs) (hq : Q none T.heap locs) : own_Go p e below (own_P s Q rc rs) (T.setTop (mkF m pc Ls [])) :=
  own_ret X hlk (fun _ => rfl) hq hc hl fun _ hr => X.returnOut hx hret hd hr
theorem own_retX (X : Stand p l e R s m args below meth c T locs cells slots) (hx : p.tables.exec = Jvm.exec) {Q : Option Value → Heap → List Loc → Prop} {rc rs pc : Nat} {Ls : Array Slot} {w : Value} {t : FieldType} {i : Instr} {rest : List Value} (hlk : meth.locks = false) (hret : meth.sig.returnType = some t) (hn : narrow t w = w)
    (hi : (i = .ireturn ∧ (t = .int ∨ t = .boolean ∨ t = .byte ∨ t = .char ∨ t = .short) ∧ ∃ z, w = .int z) ∨ (i = .lreturn ∧ t = .long ∧ ∃ z, w = .long z) ∨ (i = .dreturn ∧ t = .double ∧ ∃ z, w = .double z) ∨ (i = .freturn ∧ t = .float ∧ ∃ z, w = .float z) ∨ (i = .areturn ∧ t.isReference = true ∧ w.isRef = true))
    (hd : decode c.code pc = .ok (i, 1)) (hc : cells ≤ rc) (hl : slots ≤ rs) (hq : Q (some w) T.heap locs) : own_Go p e below (own_P s Q rc rs) (T.setTop (mkF m pc Ls (w :: rest))) :=
  own_ret X hlk (fun q => by rw [hret] at q; cases q) hq hc hl fun _ hr => retOut X hx hret hn hi hd hr
theorem own_body {y : MethodName} {bytes : ByteArray} {maxL : Nat} {ret : Option FieldType} {rm : Room} {ws : List Cond} {as' : Array Value} {Q : Option Value → Heap → List Loc → Prop} (hn : plainFor y = true)
    (b : ∀ (p : Program) (e : Env) (s : State) (m : MethodId) (below : List Frame) (meth : Method) (c : Code) (s₁ : State), p.tables.exec = Jvm.exec → c.code = bytes → c.maxLocals = maxL → s.vm.findClass y.cls = some m.cls → meth.name = y.name → meth.sig.returnType = ret → meth.locks = false → Z.Warmed39 s.vm → s₁.heap = h → Stand p l e rm s m as' below meth c s₁ [] 0 0 →
      own_Go p e below (own_P s Q rm.cells rm.slots) (s₁.setTop (entryFrame m as' maxL))) :
    MetFree l y (head1 (Cond.code y bytes maxL ret :: ws) rm) (fun a U => a = as' ∧ Z.Warmed39 U.vm ∧ U.heap = h) (fun _ _ _ _ _ => True) (fun _ U o U' => ∃ v L, o = .returned v ∧ Q v U'.heap L ∧ FrameEnd U o U' L rm.cells rm.slots) := by
  refine MetFree.of_bodySF hn hisR ?_
  intro p e s m args below meth c s₁ Bd hml0 hP hK
  obtain ⟨rfl, hZ, hh⟩ := hP
  exact b p e s m below meth c s₁ Bd.exec Bd.bytes hml0 (findClass_of_methodNamed Bd.named) (name_of_methodNamed Bd.named Bd.method).1 Bd.returns Bd.notSynchronized hZ (by rw [← hh, Bd.state]; rfl) (Stand.of_body Bd)
abbrev own_Met (l : Launch) (y : MethodName) (bytes : ByteArray) (maxL : Nat) (ret : Option FieldType) (ws : List Cond) (rm : Room) (Z : State) (h : Heap) (as' : Array Value) (Q : Option Value → Heap → List Loc → Prop) : Prop :=
  MetFree l y (head1 (Cond.code y bytes maxL ret :: ws) rm) (fun a U => a = as' ∧ Z.Warmed39 U.vm ∧ U.heap = h) (fun _ _ _ _ _ => True) (fun _ U o U' => ∃ v L, o = .returned v ∧ Q v U'.heap L ∧ FrameEnd U o U' L rm.cells rm.slots)
abbrev own_Came (p : Program) (l : Launch) (e : Env) (R : Room) (s : State) (m : MethodId) (args : Array Value) (below : List Frame) (meth : Method) (c : Code) (T : State) (locs : List Loc) (cells slots : Nat) (g : JFrame) (len : Nat) (rest : List Value) (Q : Option Value → Heap → List Loc → Prop) : Prop :=
  ∃ (T' : State) (v : Option Value) (L : List Loc), Stand p l e R s m args below meth c T' (locs ++ L) cells slots ∧ Q v T'.heap L ∧ ∀ t, Steps p.tables e below (T'.setTop { g with pc := g.pc + len, stack := v.toList ++ rest }) t → Steps p.tables e below (T.setTop g) t
theorem own_callS (X : Stand p l e R s m args below meth c T locs cells slots) (hx : p.tables.exec = Jvm.exec) (hZ : Z.Warmed39 s.vm) {own : String} {index : Nat} {y : MethodName} {bytes : ByteArray} {maxL : Nat} {ret : Option FieldType} {rm : Room} {as' : Array Value} {Q : Option Value → Heap → List Loc → Prop}
    (hown : s.vm.findClass own = some m.cls) (w1 : (Cond.methodLink own index y).before a0 Z = true) (w2 : (Cond.static y).before a0 Z = true) (w3 : (Cond.initialized y.cls).before a0 Z = true) (w4 : (Cond.code y bytes maxL ret).before a0 Z = true)
    (hy : y.cls ≠ "java/lang/invoke/MethodHandle" ∧ y.cls ≠ "java/lang/invoke/VarHandle") (hM : own_Met l y bytes maxL ret [] rm Z h as' Q) (eT : T.heap = h) {ps : List FieldType} {r : Option FieldType} (hd : parseMethodDescriptor y.desc = some ⟨ps, r⟩) {argsL rest : List Value} (hl : argsL.length = ps.length) (ha : argsL.toArray = as')
    {g : JFrame} (hg : g.method = m) (hsize : g.locals.size = c.maxLocals) (hstack : g.stack = argsL.reverse ++ rest) (hdg : decode c.code g.pc = .ok (.invokestatic index, 3)) {W : Nat} (hW : 2 * g.monitorRoom + (rest.map fun v => v.category).sum = W) (h1 : rm.frames + 1 ≤ R.frames) (h2 : W + (maxL + 11) + rm.locals ≤ R.locals) (h3 : cells + rm.cells ≤ R.cells) (h4 : slots + rm.slots ≤ R.slots) :
    own_Came p l e R s m args below meth c T locs (cells + rm.cells) (slots + rm.slots) g 3 rest Q := by
  obtain ⟨v, _, ⟨T', L', k', n'⟩, -, X', ⟨Lc, hQ, l1, y1, z1⟩, st⟩ := Jvm.LawKit.callS X hx (y := y) hown (mvT hZ w1) (mvT hZ w2) (mvT hZ w3) (mvT hZ w4) hy (backOf (W := W) hM hZ w4 w3 h1 h2) (g := g) hg hsize (argsL := argsL) (rest := rest) (lenOf hd hl) hstack (Nat.le_of_eq hW) hdg (fun _ _ => ⟨ha, eT, h3, h4⟩)
  dsimp only [Pt.U, Pt.locs, Pt.cells, Pt.slots] at X' l1 y1 z1 st hQ
  subst l1 y1 z1
  exact ⟨T', v, Lc, X', hQ, st⟩
theorem own_callN (X : Stand p l e R s m args below meth c T locs cells slots) (hx : p.tables.exec = Jvm.exec) (hZ : Z.Warmed39 s.vm) {own : String} {index : Nat} {y : MethodName} {bytes : ByteArray} {maxL : Nat} {rm : Room} {as' : Array Value} {Q : Option Value → Heap → List Loc → Prop} (hy1 : y.name = "<init>")
    (hown : s.vm.findClass own = some m.cls) (w1 : (Cond.methodLink own index y).before a0 Z = true) (w2 : (Cond.instanceMethod y).before a0 Z = true) (w3 : (Cond.initialized y.cls).before a0 Z = true) (w4 : (Cond.code y bytes maxL none).before a0 Z = true)
    (hy : y.cls ≠ "java/lang/invoke/MethodHandle" ∧ y.cls ≠ "java/lang/invoke/VarHandle") (hM : own_Met l y bytes maxL none [] rm Z h as' Q) (eT : T.heap = h) {ps : List FieldType} {r : Option FieldType} (hd : parseMethodDescriptor y.desc = some ⟨ps, r⟩) {a : Addr} {argsL rest : List Value} (hl : argsL.length = ps.length) (ha : (.ref a :: argsL).toArray = as')
    {g : JFrame} (hg : g.method = m) (hsize : g.locals.size = c.maxLocals) (hstack : g.stack = argsL.reverse ++ .ref a :: rest) (hdg : decode c.code g.pc = .ok (.invokespecial index, 3)) {W : Nat} (hW : 2 * g.monitorRoom + (rest.map fun v => v.category).sum = W) (h1 : rm.frames + 1 ≤ R.frames) (h2 : W + (maxL + 11) + rm.locals ≤ R.locals) (h3 : cells + rm.cells ≤ R.cells) (h4 : slots + rm.slots ≤ R.slots) :
    own_Came p l e R s m args below meth c T locs (cells + rm.cells) (slots + rm.slots) g 3 rest Q := by
  obtain ⟨v, _, ⟨T', L', k', n'⟩, -, X', ⟨Lc, hQ, l1, y1, z1⟩, st⟩ := X.specialBack hx (y := y) hy1 hown (mvT hZ w1) (mvT hZ w2) (mvT hZ w4) hy (backOf (W := W) hM hZ w4 w3 h1 h2) (g := g) hg hsize (Steps.refl _) (a := a) (argsL := argsL) (rest := rest) (lenOf hd hl) hstack (Nat.le_of_eq hW) hdg (fun _ _ => ⟨ha, eT, h3, h4⟩)
  dsimp only [Pt.U, Pt.locs, Pt.cells, Pt.slots] at X' l1 y1 z1 st hQ
  subst l1 y1 z1
  exact ⟨T', v, Lc, X', hQ, fun _ k => st.trans k⟩
theorem own_callV (X : Stand p l e R s m args below meth c T locs cells slots) (hx : p.tables.exec = Jvm.exec) (hZ : Z.Warmed39 s.vm) {own C : String} {index : Nat} {y z : MethodName} {bytes : ByteArray} {maxL : Nat} {ret : Option FieldType} {rm : Room} {as' : Array Value} {Q : Option Value → Heap → List Loc → Prop}
    (hown : s.vm.findClass own = some m.cls) (w1 : (Cond.methodLink own index y).before a0 Z = true) (w2 : (Cond.declares y).before a0 Z = true) (hnf : NotFace s y) (w5 : (Cond.selects C y z).before a0 Z = true) (w6 : (Cond.instanceMethod z).before a0 Z = true) (w3 : (Cond.initialized z.cls).before a0 Z = true) (w4 : (Cond.code z bytes maxL ret).before a0 Z = true)
    (hy : y.cls ≠ "java/lang/invoke/MethodHandle" ∧ y.cls ≠ "java/lang/invoke/VarHandle") (hM : own_Met l z bytes maxL ret [] rm Z h as' Q) (eT : T.heap = h) {a : Addr} (E : Exa Z h a C) {ps : List FieldType} {r : Option FieldType} (hd : parseMethodDescriptor y.desc = some ⟨ps, r⟩) {argsL rest : List Value} (hl : argsL.length = ps.length) (ha : (.ref a :: argsL).toArray = as')
    {g : JFrame} (hg : g.method = m) (hsize : g.locals.size = c.maxLocals) (hstack : g.stack = argsL.reverse ++ .ref a :: rest) (hdg : decode c.code g.pc = .ok (.invokevirtual index, 3)) {W : Nat} (hW : 2 * g.monitorRoom + (rest.map fun v => v.category).sum = W) (h1 : rm.frames + 1 ≤ R.frames) (h2 : W + (maxL + 11) + rm.locals ≤ R.locals) (h3 : cells + rm.cells ≤ R.cells) (h4 : slots + rm.slots ≤ R.slots) :
    own_Came p l e R s m args below meth c T locs (cells + rm.cells) (slots + rm.slots) g 3 rest Q := by
  obtain ⟨cq, kq, qa, qb, qc⟩ := isOf hZ eT E
  obtain ⟨v, _, ⟨T', L', k', n'⟩, -, X', ⟨Lc, hQ, l1, y1, z1⟩, st⟩ := X.virtualBack hx (y := y) (z := z) hown (mvT hZ w1) (mvT hZ w2) hnf (mvT hZ w5) (mvT hZ w6) hy (backOf (W := W) hM hZ w4 w3 h1 h2) qa qc (g := g) hg hsize (Steps.refl _) (argsL := argsL) (rest := rest) (lenOf hd hl) hstack (Nat.le_of_eq hW) hdg (fun _ _ => ⟨ha, eT, h3, h4⟩)
  dsimp only [Pt.U, Pt.locs, Pt.cells, Pt.slots] at X' l1 y1 z1 st hQ
  subst l1 y1 z1
  exact ⟨T', v, Lc, X', hQ, fun _ k => st.trans k⟩
theorem own_callU (X : Stand p l e R s m args below meth c T locs cells slots) (hx : p.tables.exec = Jvm.exec) (hZ : Z.Warmed39 s.vm) {own C owner : String} {index : Nat} {y z : MethodName} {bytes : ByteArray} {maxL : Nat} {ret : Option FieldType} {rm : Room} {as' : Array Value} {Q : Option Value → Heap → List Loc → Prop}
    (hown : s.vm.findClass own = some m.cls) (w1 : (Cond.methodLink own index y).before a0 Z = true) (w7 : (Cond.sameMethod y.cls owner y.name y.desc).before a0 Z = true) (w2 : (Cond.declares ⟨owner, y.name, y.desc⟩).before a0 Z = true) (w5 : (Cond.selects C y z).before a0 Z = true) (w6 : (Cond.instanceMethod z).before a0 Z = true) (w3 : (Cond.initialized z.cls).before a0 Z = true) (w4 : (Cond.code z bytes maxL ret).before a0 Z = true)
    (hy : owner ≠ "java/lang/invoke/MethodHandle" ∧ owner ≠ "java/lang/invoke/VarHandle") (hM : own_Met l z bytes maxL ret [] rm Z h as' Q) (eT : T.heap = h) {a : Addr} (E : Exa Z h a C) {ps : List FieldType} {r : Option FieldType} (hd : parseMethodDescriptor y.desc = some ⟨ps, r⟩) {argsL rest : List Value} (hl : argsL.length = ps.length) (ha : (.ref a :: argsL).toArray = as')
    {g : JFrame} (hg : g.method = m) (hsize : g.locals.size = c.maxLocals) (hstack : g.stack = argsL.reverse ++ .ref a :: rest) (hdg : decode c.code g.pc = .ok (.invokevirtual index, 3)) {W : Nat} (hW : 2 * g.monitorRoom + (rest.map fun v => v.category).sum = W) (h1 : rm.frames + 1 ≤ R.frames) (h2 : W + (maxL + 11) + rm.locals ≤ R.locals) (h3 : cells + rm.cells ≤ R.cells) (h4 : slots + rm.slots ≤ R.slots) :
    own_Came p l e R s m args below meth c T locs (cells + rm.cells) (slots + rm.slots) g 3 rest Q := by
  obtain ⟨cq, kq, qa, qb, qc⟩ := isOf hZ eT E
  obtain ⟨v, _, ⟨T', L', k', n'⟩, -, X', ⟨Lc, hQ, l1, y1, z1⟩, st⟩ := X.virtualBackUp hx (x := y) (y := z) hown (mvT hZ w1) (mvT hZ w7) (mvT hZ w2) hy (mvT hZ w5) (mvT hZ w6) (backOf (W := W) hM hZ w4 w3 h1 h2) qa qc (g := g) hg hsize (Steps.refl _) (argsL := argsL) (rest := rest) (lenOf hd hl) hstack (Nat.le_of_eq hW) hdg (fun _ _ => ⟨ha, eT, h3, h4⟩)
  dsimp only [Pt.U, Pt.locs, Pt.cells, Pt.slots] at X' l1 y1 z1 st hQ
  subst l1 y1 z1
  exact ⟨T', v, Lc, X', hQ, fun _ k => st.trans k⟩
theorem own_callI (X : Stand p l e R s m args below meth c T locs cells slots) (hx : p.tables.exec = Jvm.exec) (hZ : Z.Warmed39 s.vm) {own C : String} {index count : Nat} {y z : MethodName} {bytes : ByteArray} {maxL : Nat} {ret : Option FieldType} {rm : Room} {as' : Array Value} {Q : Option Value → Heap → List Loc → Prop}
    (hown : s.vm.findClass own = some m.cls) (w1 : (Cond.methodLink own index y).before a0 Z = true) (w2 : (Cond.declares y).before a0 Z = true) (w7 : (Cond.interfaceMethod y.cls y.cls y.name y.desc).before args s = true) (w5 : (Cond.selects C y z).before a0 Z = true) (w6 : (Cond.instanceMethod z).before a0 Z = true) (w8 : (Cond.publicMethod z).before a0 Z = true) (w9 : (Cond.unhidden C y.name y.desc).before a0 Z = true) (w10 : (Cond.castable C y.cls).before a0 Z = true) (w3 : (Cond.initialized z.cls).before a0 Z = true) (w4 : (Cond.code z bytes maxL ret).before a0 Z = true)
    (hy : y.cls ≠ "java/lang/invoke/MethodHandle" ∧ y.cls ≠ "java/lang/invoke/VarHandle") (hM : own_Met l z bytes maxL ret [] rm Z h as' Q) (eT : T.heap = h) {a : Addr} (E : Exa Z h a C) {ps : List FieldType} {r : Option FieldType} (hd : parseMethodDescriptor y.desc = some ⟨ps, r⟩) {argsL rest : List Value} (hl : argsL.length = ps.length) (ha : (.ref a :: argsL).toArray = as')
    {g : JFrame} (hg : g.method = m) (hsize : g.locals.size = c.maxLocals) (hstack : g.stack = argsL.reverse ++ .ref a :: rest) (hdg : decode c.code g.pc = .ok (.invokeinterface index count, 5)) {W : Nat} (hW : 2 * g.monitorRoom + (rest.map fun v => v.category).sum = W) (h1 : rm.frames + 1 ≤ R.frames) (h2 : W + (maxL + 11) + rm.locals ≤ R.locals) (h3 : cells + rm.cells ≤ R.cells) (h4 : slots + rm.slots ≤ R.slots) :
    own_Came p l e R s m args below meth c T locs (cells + rm.cells) (slots + rm.slots) g 5 rest Q := by
  obtain ⟨cq, kq, qa, qb, qc⟩ := isOf hZ eT E
  obtain ⟨v, _, ⟨T', L', k', n'⟩, -, X', ⟨Lc, hQ, l1, y1, z1⟩, st⟩ := X.interfaceBack hx (xi := y) (y := z) hown (mvT hZ w1) (mvT hZ w2) w7 (mvT hZ w5) (mvT hZ w6) (mvT hZ w8) (mvT hZ w9) (mvT hZ w10) hy (backOf (W := W) hM hZ w4 w3 h1 h2) qa qb qc (g := g) hg hsize (Steps.refl _) (argsL := argsL) (rest := rest) (lenOf hd hl) hstack (Nat.le_of_eq hW) hdg (fun _ _ => ⟨ha, eT, h3, h4⟩)
  dsimp only [Pt.U, Pt.locs, Pt.cells, Pt.slots] at X' l1 y1 z1 st hQ
  subst l1 y1 z1
  exact ⟨T', v, Lc, X', hQ, fun _ k => st.trans k⟩
theorem own_selP (hZ : Z.Warmed39 s.vm) {y : MethodName} {n : Nat} (w1 : (Cond.instantiable y.cls n).before a0 Z = true) (w2 : (Cond.privateMethod y).before a0 Z = true) (w3 : (Cond.instanceMethod y).before a0 Z = true) (hy : y.cls ≠ "java/lang/invoke/MethodHandle" ∧ y.cls ≠ "java/lang/invoke/VarHandle") : (Cond.selects y.cls y y).before args s = true := by
  obtain ⟨c, k, h1, h2, -, h3, -⟩ := Cond.instantiable_spec (mvT hZ w1 (args := args))
  exact Jvm.Stand.selects_self_of_private h1 h2 (by simp at h3; exact h3.1) (Cond.privateMethod_at (mvP hZ w2 (args := args))) (mvT hZ w3) hy
theorem own_callP (X : Stand p l e R s m args below meth c T locs cells slots) (hx : p.tables.exec = Jvm.exec) (hZ : Z.Warmed39 s.vm) {own : String} {index : Nat} {y : MethodName} {bytes : ByteArray} {maxL : Nat} {ret : Option FieldType} {rm : Room} {as' : Array Value} {Q : Option Value → Heap → List Loc → Prop}
    (hown : s.vm.findClass own = some m.cls) (w1 : (Cond.methodLink own index y).before a0 Z = true) (w6 : (Cond.instanceMethod y).before a0 Z = true) (w5 : (Cond.selects y.cls y y).before args s = true) (w7 : (Cond.privateMethod y).before a0 Z = true) (w3 : (Cond.initialized y.cls).before a0 Z = true) (w4 : (Cond.code y bytes maxL ret).before a0 Z = true)
    (hy : y.cls ≠ "java/lang/invoke/MethodHandle" ∧ y.cls ≠ "java/lang/invoke/VarHandle") (hM : own_Met l y bytes maxL ret [] rm Z h as' Q) (eT : T.heap = h) {a : Addr} {C : String} (E : Exa Z h a C) {ps : List FieldType} {r : Option FieldType} (hd : parseMethodDescriptor y.desc = some ⟨ps, r⟩) {argsL rest : List Value} (hl : argsL.length = ps.length) (ha : (.ref a :: argsL).toArray = as')
    {g : JFrame} (hg : g.method = m) (hsize : g.locals.size = c.maxLocals) (hstack : g.stack = argsL.reverse ++ .ref a :: rest) (hdg : decode c.code g.pc = .ok (.invokevirtual index, 3)) {W : Nat} (hW : 2 * g.monitorRoom + (rest.map fun v => v.category).sum = W) (h1 : rm.frames + 1 ≤ R.frames) (h2 : W + (maxL + 11) + rm.locals ≤ R.locals) (h3 : cells + rm.cells ≤ R.cells) (h4 : slots + rm.slots ≤ R.slots) :
    own_Came p l e R s m args below meth c T locs (cells + rm.cells) (slots + rm.slots) g 3 rest Q := by
  obtain ⟨cq, q, q'⟩ := E.cell
  obtain ⟨v, _, ⟨T', L', k', n'⟩, -, X', ⟨Lc, hQ, l1, y1, z1⟩, st⟩ := X.privateBack hx (y := y) hown (mvT hZ w1) (mvT hZ w6) w5 (Cond.privateMethod_at (mvP hZ w7 (args := #[]))) (mvT hZ w4) hy (backOf (W := W) hM hZ w4 w3 h1 h2) (g := g) hg hsize (Steps.refl _) (a := a) (by rw [eT]; exact q) q' (argsL := argsL) (rest := rest) (lenOf hd hl) hstack (Nat.le_of_eq hW) hdg (fun _ _ => ⟨ha, eT, h3, h4⟩)
  dsimp only [Pt.U, Pt.locs, Pt.cells, Pt.slots] at X' l1 y1 z1 st hQ
  subst l1 y1 z1
  exact ⟨T', v, Lc, X', hQ, fun _ k => st.trans k⟩
theorem own_nl {n0 : Nat} {Z : State} (O : Old Z n0 h) : n0 ≤ h.size := O.1 ▸ O.2.1
theorem own_tt {x : Bool} (h : x = true) : x = true := h
end Own
section Own2
variable {args : Array Value} {Z : State} {a : Addr} {O f d : String} {k : Int32} {t : Term} {v : Value} {ty : FieldType}
theorem own_fldI (ht : t.eval args Z none [] Z = some (.ref a)) (h : (Cond.eq (.field t O f d) (.int k)).value args Z none Z [] = some true) : Fld Z Z.heap a O f d (.int k) := by
  obtain ⟨x, y, ea, eb, -, k2⟩ := cmp_v (Or.inl h)
  obtain rfl : y = .int k := (Option.some.inj (eb.symm.trans (Term.int_eval k)))
  obtain ⟨z, rfl⟩ := k2
  obtain rfl : z = k := by simpa [Cond.value, ea, eb] using h
  rw [fld_at ht] at ea
  exact Fld.start ea
theorem own_len {c : Cell} (ht : t.eval args Z none [] Z = some (.ref a)) (A : Arr Z Z.heap a c ty) (h : (Cond.eq (.length t) (.int k)).value args Z none Z [] = some true) : c.slots.size < 2 ^ 31 ∧ c.slots.size.toInt32 = k := by
  obtain ⟨x, y, ea, eb, -, k2⟩ := cmp_v (Or.inl h)
  obtain rfl : y = .int k := (Option.some.inj (eb.symm.trans (Term.int_eval k)))
  obtain ⟨z, rfl⟩ := k2
  obtain rfl : z = k := by simpa [Cond.value, ea, eb] using h
  have hc := Arr.fin (State.Warmed39.refl Z).alike A
  simp only [Term.eval, ht, Option.bind_eq_bind, Option.bind_some, hc] at ea
  split at ea
  · rename_i hl
    exact ⟨by simpa using hl, by simpa using ea⟩
  · cases ea
theorem own_lenN {n : Nat} {k : Int32} (h : n < 2 ^ 31) (e : n.toInt32 = k) : n = k.toNatClampNeg := by
  subst e
  have := len_toInt h
  simp [Int32.toNatClampNeg, this]
theorem own_elem {c : Cell} {i : Int32} (ht : t.eval args Z none [] Z = some (.ref a)) (A : Arr Z Z.heap a c ty) (h : (Cond.eq (.elem t (.int i)) (.int k)).value args Z none Z [] = some true) : c.slots[i.toNatClampNeg]? = some (.int k) := by
  obtain ⟨x, y, ea, eb, -, k2⟩ := cmp_v (Or.inl h)
  obtain rfl : y = .int k := (Option.some.inj (eb.symm.trans (Term.int_eval k)))
  obtain ⟨z, rfl⟩ := k2
  obtain rfl : z = k := by simpa [Cond.value, ea, eb] using h
  exact (elem_in ea ht (Term.int_eval i) A.1).2
theorem own_bb (x : Int32) : nar .byte x.toInt8.toInt32 = x.toInt8.toInt32 := by simp [nar]
theorem own_narG (h : v.isRef = true) : narrow ty v = v := by cases v <;> first | rfl | (cases ty <;> rfl) | simp [Value.isRef] at h
theorem own_fitG (h : v.isRef = true) (ht : ty.isReference = true := by rfl) : fits ty v = true := by cases v <;> cases ty <;> simp_all [Value.isRef, fits, FieldType.isReference]
end Own2
section OwnM
variable {p : Program} {l : Launch} {e : Env} {R : Room} {s : State} {m : MethodId} {args : Array Value} {below : List Frame} {meth : Method} {c : Code} {T : State} {locs : List Loc} {cells slots : Nat} {Z : State} {a0 : Array Value} {h : Heap} {a : Addr}
def own_Mir (Z : State) (C : String) (m : Addr) : Prop := ∃ (c : ClassId) (k : Class), Z.vm.findClass C = some c ∧ Z.vm.classes[c]? = some k ∧ k.mirror = some m
theorem own_gcls (X : Stand p l e R s m args below meth c T locs cells slots) (hx : p.tables.exec = Jvm.exec) (hZ : Z.Warmed39 s.vm) {own C : String} {index : Nat} (hown : s.vm.findClass own = some m.cls)
    (w1 : (Cond.methodLink own index ⟨"java/lang/Object", "getClass", "()Ljava/lang/Class;"⟩).before a0 Z = true) (w2 : (Cond.declares ⟨"java/lang/Object", "getClass", "()Ljava/lang/Class;"⟩).before a0 Z = true) (w4 : (Cond.selects C ⟨"java/lang/Object", "getClass", "()Ljava/lang/Class;"⟩ ⟨"java/lang/Object", "getClass", "()Ljava/lang/Class;"⟩).before a0 Z = true)
    (w5 : (Cond.instanceMethod ⟨"java/lang/Object", "getClass", "()Ljava/lang/Class;"⟩).before a0 Z = true) (w6 : (Cond.native ⟨"java/lang/Object", "getClass", "()Ljava/lang/Class;"⟩).before a0 Z = true) (eT : T.heap = h) (E : Exa Z h a C) {mr : Addr} (M : own_Mir Z C mr)
    {g : JFrame} (hg : g.method = m) (hsize : g.locals.size = c.maxLocals) {rest : List Value} (hs : g.stack = .ref a :: rest) (hd : decode c.code g.pc = .ok (.invokevirtual index, 3)) (hf : 1 ≤ R.frames) {W : Nat} (hW : 2 * g.monitorRoom + (rest.map fun v => v.category).sum ≤ W) (hl : W + (nativeFrameWords "java/lang/Object" "getClass" 1 + 11) ≤ R.locals) :
    ∃ T', Stand p l e R s m args below meth c T' locs cells slots ∧ T'.heap = h ∧ ∀ target, Steps p.tables e below (T'.setTop { g with pc := g.pc + 3, stack := .ref mr :: rest }) target → Steps p.tables e below (T.setTop g) target := by
  obtain ⟨cB, kB, i1, i2, i3⟩ := isOf hZ eT E
  obtain ⟨cc, kc, m1, m2, m3⟩ := M
  rw [hZ.alike.findClass] at i1
  cases i1.symm.trans m1
  obtain ⟨k', q, ek⟩ := hZ.alike.2.2 _ _ m2
  obtain ⟨vm', X', st⟩ := X.getClassOf hx hown (mvT hZ w1) (mvT hZ w2) (notFace_of_selects (args := #[]) (mvT hZ w4)) (mvT hZ w4) (mvT hZ w5) (mvT hZ w6) (by rw [hZ.alike.findClass]; exact m1) i3 q (by rw [ek]; exact m3) hg hsize hs hd hf (by omega)
  exact ⟨_, X', eT, st⟩
end OwnM
theorem own_and3 (n : Int32) : (n &&& (3 : Int32)) = 0 ∨ (n &&& (3 : Int32)) = 1 ∨ (n &&& (3 : Int32)) = 2 ∨ (n &&& (3 : Int32)) = 3 := by
  have h1 := c_and n 3 (by decide)
  have e3 : (3 : Int32).toInt = 3 := by decide
  have e0 : (0 : Int32).toInt = 0 := by decide
  have e1 : (1 : Int32).toInt = 1 := by decide
  have e2 : (2 : Int32).toInt = 2 := by decide
  simp only [← Int32.toInt_inj, e0, e1, e2, e3] at *
  omega
theorem own_rne {a b : Addr} (h : a ≠ b) : ¬ (Value.ref a = Value.ref b) := fun q => h (by cases q; rfl)
def own_S (Z : State) (w0 : Addr) (wl : Addr) (wp : Addr) (mr : Addr) : Prop := Sta Z Z.heap "com/example/tasdik/tasdik/core/cbor/CborValue$Type" "BYTE_STRING" "Lcom/example/tasdik/tasdik/core/cbor/CborValue$Type;" (.ref w0) ∧ Exa Z Z.heap w0 "com/example/tasdik/tasdik/core/cbor/CborValue$Type" ∧ Fld Z Z.heap w0 "java/lang/Enum" "ordinal" "I" (.int (1 : Int32)) ∧ Sta Z Z.heap "java/util/ImmutableCollections" "EMPTY_LIST" "Ljava/util/ImmutableCollections$ListN;" (.ref wl) ∧ Sta Z Z.heap "java/util/ImmutableCollections" "EMPTY_MAP" "Ljava/util/ImmutableCollections$MapN;" (.ref wp) ∧ own_Mir Z "com/example/tasdik/tasdik/core/cbor/CborValue$Type" mr
theorem own_d_jdk_40_36_0 : decode jdk_40_method_36_code 0 = .ok (.getstatic 90, 3) := by decide +kernel
theorem own_d_jdk_40_36_3 : decode jdk_40_method_36_code 3 = .ok (.areturn, 1) := by decide +kernel
theorem own_pn_2 : plainName "java/util/List" = true := by first | (simp [plainName, overriddenIn]; done) | decide +kernel
theorem own_ef_rmL (m : MethodId)   : entryFrame m #[] 0 = mkF m 0 #[] [] := by first | (simp [entryFrame, mkF, argsToLocals, Value.category, maxLocals]; done) | rfl
def QrmL (Z : State) (w0 : Addr) (wl : Addr) (wp : Addr) (mr : Addr)  (h0 : Heap) (n0 : Nat) (v : Option Value) (h : Heap) (L : List Loc) : Prop := v = some (.ref wl) ∧ Fr n0 L ∧ h = h0
set_option maxRecDepth 65536 in
set_option maxHeartbeats 40000000 in
theorem rmL (l : Launch) (Z : State) (a0 : Array Value) (hw : ∀ d ∈ tables_1, d.before a0 Z = true) (ws : List Jvm.Cond) (w0 : Addr) (wl : Addr) (wp : Addr) (mr : Addr) (hS : own_S Z w0 wl wp mr)  (h0 : Heap) (n0 : Nat) (O0 : Old Z n0 h0)  :
    own_Met l (⟨"java/util/List", "of", "()Ljava/util/List;"⟩ : MethodName) jdk_40_method_36_code 0 (some (.object "java/util/List")) ws ({ frames := 0, cells := 0, slots := 0, locals := 0 } : Room) Z h0 #[] (QrmL Z w0 wl wp mr  h0 n0) := by
  refine own_body (plainFor_of_name own_pn_2) ?_
  intro p e s m below meth c s₁ hx hby hml hown hnm hret hlk hZ e0 X0
  have N0 := Fr.nil n0
  refine own_st (fun u_ k_ => castTop (own_ef_rmL m ) k_) ?_
  show own_Go p e below _ (s₁.setTop (mkF m 0 #[] []))
  have F1 : Sta Z h0 "java/util/ImmutableCollections" "EMPTY_LIST" "Ljava/util/ImmutableCollections$ListN;" (.ref wl) := Sta.ext O0.2 hS.2.2.2.1
  obtain ⟨T2, X2, e2, st2⟩ := getS2 X0 hx hZ hown (host := "") (Or.inl (hw _ (List.mem_of_getElem? (i := 18) rfl))) Via.refl e0 F1 (g := (mkF m 0 #[] [])) rfl (hb hby own_d_jdk_40_36_0)
  refine own_st (fun u_ k_ => st2 u_ k_) ?_
  show own_Go p e below _ (T2.setTop (mkF m 3 #[] [(.ref wl)]))
  exact own_retX X2 hx hlk hret rfl (Or.inr (Or.inr (Or.inr (Or.inr ⟨rfl, rfl, rfl⟩)))) (hb hby own_d_jdk_40_36_3) (by decide) (by decide) (show QrmL Z w0 wl wp mr  h0 n0 (some (.ref wl)) T2.heap _ from (by rw [e2]; exact ⟨rfl, N0, rfl⟩))
theorem own_d_jdk_72_26_0 : decode jdk_72_method_26_code 0 = .ok (.getstatic 81, 3) := by decide +kernel
theorem own_d_jdk_72_26_3 : decode jdk_72_method_26_code 3 = .ok (.areturn, 1) := by decide +kernel
theorem own_pn_5 : plainName "java/util/Map" = true := by first | (simp [plainName, overriddenIn]; done) | decide +kernel
theorem own_ef_rmP (m : MethodId)   : entryFrame m #[] 0 = mkF m 0 #[] [] := by first | (simp [entryFrame, mkF, argsToLocals, Value.category, maxLocals]; done) | rfl
def QrmP (Z : State) (w0 : Addr) (wl : Addr) (wp : Addr) (mr : Addr)  (h0 : Heap) (n0 : Nat) (v : Option Value) (h : Heap) (L : List Loc) : Prop := v = some (.ref wp) ∧ Fr n0 L ∧ h = h0
set_option maxRecDepth 65536 in
set_option maxHeartbeats 40000000 in
theorem rmP (l : Launch) (Z : State) (a0 : Array Value) (hw : ∀ d ∈ tables_1, d.before a0 Z = true) (ws : List Jvm.Cond) (w0 : Addr) (wl : Addr) (wp : Addr) (mr : Addr) (hS : own_S Z w0 wl wp mr)  (h0 : Heap) (n0 : Nat) (O0 : Old Z n0 h0)  :
    own_Met l (⟨"java/util/Map", "of", "()Ljava/util/Map;"⟩ : MethodName) jdk_72_method_26_code 0 (some (.object "java/util/Map")) ws ({ frames := 0, cells := 0, slots := 0, locals := 0 } : Room) Z h0 #[] (QrmP Z w0 wl wp mr  h0 n0) := by
  refine own_body (plainFor_of_name own_pn_5) ?_
  intro p e s m below meth c s₁ hx hby hml hown hnm hret hlk hZ e0 X0
  have N0 := Fr.nil n0
  refine own_st (fun u_ k_ => castTop (own_ef_rmP m ) k_) ?_
  show own_Go p e below _ (s₁.setTop (mkF m 0 #[] []))
  have F3 : Sta Z h0 "java/util/ImmutableCollections" "EMPTY_MAP" "Ljava/util/ImmutableCollections$MapN;" (.ref wp) := Sta.ext O0.2 hS.2.2.2.2.1
  obtain ⟨T4, X4, e4, st4⟩ := getS2 X0 hx hZ hown (host := "") (Or.inl (hw _ (List.mem_of_getElem? (i := 24) rfl))) Via.refl e0 F3 (g := (mkF m 0 #[] [])) rfl (hb hby own_d_jdk_72_26_0)
  refine own_st (fun u_ k_ => st4 u_ k_) ?_
  show own_Go p e below _ (T4.setTop (mkF m 3 #[] [(.ref wp)]))
  exact own_retX X4 hx hlk hret rfl (Or.inr (Or.inr (Or.inr (Or.inr ⟨rfl, rfl, rfl⟩)))) (hb hby own_d_jdk_72_26_3) (by decide) (by decide) (show QrmP Z w0 wl wp mr  h0 n0 (some (.ref wp)) T4.heap _ from (by rw [e4]; exact ⟨rfl, N0, rfl⟩))
theorem own_d_method_2_0 : decode method_2_code 0 = .ok (.iload_n 0, 1) := by decide +kernel
theorem own_d_method_2_1 : decode method_2_code 1 = .ok (.ifCond .ne 7, 3) := by decide +kernel
theorem own_d_method_2_4 : decode method_2_code 4 = .ok (.iconst 0, 1) := by decide +kernel
theorem own_d_method_2_5 : decode method_2_code 5 = .ok (.newarray .byte, 2) := by decide +kernel
theorem own_lm_10 : "[" ++ (newarray.typeOf .byte).toString = "[B" := by decide +kernel
theorem own_d_method_2_7 : decode method_2_code 7 = .ok (.areturn, 1) := by decide +kernel
theorem own_pn_12 : plainName "com/example/tasdik/tasdik/core/cbor/CborValueByteStringPinLaw" = true := by first | (simp [plainName, overriddenIn]; done) | decide +kernel
theorem own_ef_rmK0 (m : MethodId) (x : Int32) (y : Int32) (z : Int32)  : entryFrame m #[(.int (0 : Int32)), (.int x), (.int y), (.int z)] 4 = mkF m 0 #[.val (.int (0 : Int32)), .val (.int x), .val (.int y), .val (.int z)] [] := by first | (simp [entryFrame, mkF, argsToLocals, Value.category, maxLocals]; done) | rfl
def QrmK0 (Z : State) (w0 : Addr) (wl : Addr) (wp : Addr) (mr : Addr) (x : Int32) (y : Int32) (z : Int32) (h0 : Heap) (n0 : Nat) (v : Option Value) (h : Heap) (L : List Loc) : Prop := ∃ r : Addr, ∃ kr : ClassId, v = some (.ref r) ∧ Fr n0 L ∧ Keep h0 h [] ∧ h0.size ≤ r ∧ Arv Z h r kr .byte (0 : Int32) [] (.int (0 : Int32)) ∧ Exa Z h r "[B"
set_option maxRecDepth 65536 in
set_option maxHeartbeats 40000000 in
theorem rmK0 (l : Launch) (Z : State) (a0 : Array Value) (hw : ∀ d ∈ tables_1, d.before a0 Z = true) (ws : List Jvm.Cond) (w0 : Addr) (wl : Addr) (wp : Addr) (mr : Addr) (hS : own_S Z w0 wl wp mr) (x : Int32) (y : Int32) (z : Int32) (h0 : Heap) (n0 : Nat) (O0 : Old Z n0 h0)  :
    own_Met l (⟨"com/example/tasdik/tasdik/core/cbor/CborValueByteStringPinLaw", "make", "(IIII)[B"⟩ : MethodName) method_2_code 4 (some (.array .byte)) ws ({ frames := 0, cells := 1, slots := 0, locals := 0 } : Room) Z h0 #[(.int (0 : Int32)), (.int x), (.int y), (.int z)] (QrmK0 Z w0 wl wp mr x y z h0 n0) := by
  refine own_body (plainFor_of_name own_pn_12) ?_
  intro p e s m below meth c s₁ hx hby hml hown hnm hret hlk hZ e0 X0
  have N0 := Fr.nil n0
  refine own_st (fun u_ k_ => castTop (own_ef_rmK0 m x y z) k_) ?_
  show own_Go p e below _ (s₁.setTop (mkF m 0 #[.val (.int (0 : Int32)), .val (.int x), .val (.int y), .val (.int z)] []))
  refine own_st (fun u_ k_ => XS.iloadN X0.here hx rfl (hb hby own_d_method_2_0) rfl k_) ?_
  show own_Go p e below _ (s₁.setTop (mkF m 1 #[.val (.int (0 : Int32)), .val (.int x), .val (.int y), .val (.int z)] [(.int (0 : Int32))]))
  refine own_st (fun u_ k_ => XS.ifNo X0.here hx rfl (hb hby own_d_method_2_1) rfl (XT.i0_ne_f (by decide)) k_) ?_
  show own_Go p e below _ (s₁.setTop (mkF m 4 #[.val (.int (0 : Int32)), .val (.int x), .val (.int y), .val (.int z)] []))
  refine own_st (fun u_ k_ => XS.iconst X0.here hx rfl (hb hby own_d_method_2_4) k_) ?_
  show own_Go p e below _ (s₁.setTop (mkF m 5 #[.val (.int (0 : Int32)), .val (.int x), .val (.int y), .val (.int z)] [(.int (0 : Int32))]))
  obtain ⟨T5, h5, k5, X5, e5, E5, A5, Y5, st5⟩ := newPE X0 hx hZ (hw _ (List.mem_of_getElem? (i := 4) rfl)) e0 (g := (mkF m 5 #[.val (.int (0 : Int32)), .val (.int x), .val (.int y), .val (.int z)] [(.int (0 : Int32))])) rfl (hb hby own_d_method_2_5) rfl (by decide) (cap := 0) (by decide) (by decide) (by decide) (by decide) (ad := "[B") own_lm_10
  obtain ⟨b5, g5⟩ : ∃ z, z = h0.size := ⟨_, rfl⟩
  rw [← g5] at A5 Y5 st5
  have V5 : Arv Z h5 b5 k5 .byte (0 : Int32) [] (.int (0 : Int32)) := (Arv.new A5 (by decide)).pad (pad_rep [] (.int (0 : Int32)) 0)
  refine own_st (fun u_ k_ => st5 u_ k_) ?_
  show own_Go p e below _ (T5.setTop (mkF m 7 #[.val (.int (0 : Int32)), .val (.int x), .val (.int y), .val (.int z)] [(.ref b5)]))
  have K6 : Keep h0 h5 [] := (Keep.refl h0 []).ext E5
  have z7 : h0.size ≤ b5 := Nat.le_trans (Nat.le_refl _) (Nat.le_of_eq g5.symm)
  exact own_retX X5 hx hlk hret rfl (Or.inr (Or.inr (Or.inr (Or.inr ⟨rfl, rfl, rfl⟩)))) (hb hby own_d_method_2_7) (by decide) (by decide) (show QrmK0 Z w0 wl wp mr x y z h0 n0 (some (.ref b5)) T5.heap _ from (by rw [e5]; exact ⟨b5, k5, rfl, N0, K6, z7, V5, Y5⟩))
theorem own_d_method_2_8 : decode method_2_code 8 = .ok (.iload_n 0, 1) := by decide +kernel
theorem own_d_method_2_9 : decode method_2_code 9 = .ok (.iconst 1, 1) := by decide +kernel
theorem own_d_method_2_10 : decode method_2_code 10 = .ok (.if_icmp .ne 12, 3) := by decide +kernel
theorem own_d_method_2_13 : decode method_2_code 13 = .ok (.iconst 1, 1) := by decide +kernel
theorem own_d_method_2_14 : decode method_2_code 14 = .ok (.newarray .byte, 2) := by decide +kernel
theorem own_d_method_2_16 : decode method_2_code 16 = .ok (.dup, 1) := by decide +kernel
theorem own_d_method_2_17 : decode method_2_code 17 = .ok (.iconst 0, 1) := by decide +kernel
theorem own_d_method_2_18 : decode method_2_code 18 = .ok (.iload_n 1, 1) := by decide +kernel
theorem own_d_method_2_19 : decode method_2_code 19 = .ok (.i2b, 1) := by decide +kernel
theorem own_d_method_2_20 : decode method_2_code 20 = .ok (.bastore, 1) := by decide +kernel
theorem own_d_method_2_21 : decode method_2_code 21 = .ok (.areturn, 1) := by decide +kernel
theorem own_ef_rmK1 (m : MethodId) (x : Int32) (y : Int32) (z : Int32)  : entryFrame m #[(.int (1 : Int32)), (.int x), (.int y), (.int z)] 4 = mkF m 0 #[.val (.int (1 : Int32)), .val (.int x), .val (.int y), .val (.int z)] [] := by first | (simp [entryFrame, mkF, argsToLocals, Value.category, maxLocals]; done) | rfl
def QrmK1 (Z : State) (w0 : Addr) (wl : Addr) (wp : Addr) (mr : Addr) (x : Int32) (y : Int32) (z : Int32) (h0 : Heap) (n0 : Nat) (v : Option Value) (h : Heap) (L : List Loc) : Prop := ∃ r : Addr, ∃ kr : ClassId, v = some (.ref r) ∧ Fr n0 L ∧ Keep h0 h [] ∧ h0.size ≤ r ∧ Arv Z h r kr .byte (1 : Int32) [(.int (x.toInt8.toInt32))] (.int (0 : Int32)) ∧ Exa Z h r "[B"
set_option maxRecDepth 65536 in
set_option maxHeartbeats 40000000 in
theorem rmK1 (l : Launch) (Z : State) (a0 : Array Value) (hw : ∀ d ∈ tables_1, d.before a0 Z = true) (ws : List Jvm.Cond) (w0 : Addr) (wl : Addr) (wp : Addr) (mr : Addr) (hS : own_S Z w0 wl wp mr) (x : Int32) (y : Int32) (z : Int32) (h0 : Heap) (n0 : Nat) (O0 : Old Z n0 h0)  :
    own_Met l (⟨"com/example/tasdik/tasdik/core/cbor/CborValueByteStringPinLaw", "make", "(IIII)[B"⟩ : MethodName) method_2_code 4 (some (.array .byte)) ws ({ frames := 0, cells := 1, slots := 1, locals := 0 } : Room) Z h0 #[(.int (1 : Int32)), (.int x), (.int y), (.int z)] (QrmK1 Z w0 wl wp mr x y z h0 n0) := by
  refine own_body (plainFor_of_name own_pn_12) ?_
  intro p e s m below meth c s₁ hx hby hml hown hnm hret hlk hZ e0 X0
  have N0 := Fr.nil n0
  refine own_st (fun u_ k_ => castTop (own_ef_rmK1 m x y z) k_) ?_
  show own_Go p e below _ (s₁.setTop (mkF m 0 #[.val (.int (1 : Int32)), .val (.int x), .val (.int y), .val (.int z)] []))
  refine own_st (fun u_ k_ => XS.iloadN X0.here hx rfl (hb hby own_d_method_2_0) rfl k_) ?_
  show own_Go p e below _ (s₁.setTop (mkF m 1 #[.val (.int (1 : Int32)), .val (.int x), .val (.int y), .val (.int z)] [(.int (1 : Int32))]))
  refine own_st (fun u_ k_ => XS.ifYes X0.here hx rfl (pc0 := 1) (pc' := 8) rfl (hb hby own_d_method_2_1) rfl (XT.i0_ne_t (by decide)) (by decide) (by decide) k_) ?_
  show own_Go p e below _ (s₁.setTop (mkF m 8 #[.val (.int (1 : Int32)), .val (.int x), .val (.int y), .val (.int z)] []))
  refine own_st (fun u_ k_ => XS.iloadN X0.here hx rfl (hb hby own_d_method_2_8) rfl k_) ?_
  show own_Go p e below _ (s₁.setTop (mkF m 9 #[.val (.int (1 : Int32)), .val (.int x), .val (.int y), .val (.int z)] [(.int (1 : Int32))]))
  refine own_st (fun u_ k_ => XS.iconst X0.here hx rfl (hb hby own_d_method_2_9) k_) ?_
  show own_Go p e below _ (s₁.setTop (mkF m 10 #[.val (.int (1 : Int32)), .val (.int x), .val (.int y), .val (.int z)] [(.int (1 : Int32)), (.int (1 : Int32))]))
  refine own_st (fun u_ k_ => XS.icmpNo X0.here hx rfl (hb hby own_d_method_2_10) rfl (XT.ii_ne_f (by decide)) k_) ?_
  show own_Go p e below _ (s₁.setTop (mkF m 13 #[.val (.int (1 : Int32)), .val (.int x), .val (.int y), .val (.int z)] []))
  refine own_st (fun u_ k_ => XS.iconst X0.here hx rfl (hb hby own_d_method_2_13) k_) ?_
  show own_Go p e below _ (s₁.setTop (mkF m 14 #[.val (.int (1 : Int32)), .val (.int x), .val (.int y), .val (.int z)] [(.int (1 : Int32))]))
  obtain ⟨T8, h8, k8, X8, e8, E8, A8, Y8, st8⟩ := newPE X0 hx hZ (hw _ (List.mem_of_getElem? (i := 4) rfl)) e0 (g := (mkF m 14 #[.val (.int (1 : Int32)), .val (.int x), .val (.int y), .val (.int z)] [(.int (1 : Int32))])) rfl (hb hby own_d_method_2_14) rfl (by decide) (cap := 1) (by decide) (by decide) (by decide) (by decide) (ad := "[B") own_lm_10
  obtain ⟨b8, g8⟩ : ∃ z, z = h0.size := ⟨_, rfl⟩
  rw [← g8] at A8 Y8 st8
  have V8 : Arv Z h8 b8 k8 .byte (1 : Int32) [(.int (0 : Int32))] (.int (0 : Int32)) := (Arv.new A8 (by decide)).pad (pad_rep [] (.int (0 : Int32)) 1)
  refine own_st (fun u_ k_ => st8 u_ k_) ?_
  show own_Go p e below _ (T8.setTop (mkF m 16 #[.val (.int (1 : Int32)), .val (.int x), .val (.int y), .val (.int z)] [(.ref b8)]))
  refine own_st (fun u_ k_ => XS.dup X8.here hx rfl (hb hby own_d_method_2_16) rfl rfl k_) ?_
  show own_Go p e below _ (T8.setTop (mkF m 17 #[.val (.int (1 : Int32)), .val (.int x), .val (.int y), .val (.int z)] [(.ref b8), (.ref b8)]))
  refine own_st (fun u_ k_ => XS.iconst X8.here hx rfl (hb hby own_d_method_2_17) k_) ?_
  show own_Go p e below _ (T8.setTop (mkF m 18 #[.val (.int (1 : Int32)), .val (.int x), .val (.int y), .val (.int z)] [(.int (0 : Int32)), (.ref b8), (.ref b8)]))
  refine own_st (fun u_ k_ => XS.iloadN X8.here hx rfl (hb hby own_d_method_2_18) rfl k_) ?_
  show own_Go p e below _ (T8.setTop (mkF m 19 #[.val (.int (1 : Int32)), .val (.int x), .val (.int y), .val (.int z)] [(.int x), (.int (0 : Int32)), (.ref b8), (.ref b8)]))
  refine own_st (fun u_ k_ => XS.i2b X8.here hx rfl (hb hby own_d_method_2_19) rfl k_) ?_
  show own_Go p e below _ (T8.setTop (mkF m 20 #[.val (.int (1 : Int32)), .val (.int x), .val (.int y), .val (.int z)] [(.int (x.toInt8.toInt32)), (.int (0 : Int32)), (.ref b8), (.ref b8)]))
  obtain ⟨cl9, Ar9, q9, S9, N9, H9, G9⟩ := id V8
  have hi9 : ¬ ((0 : Int32) < 0 ∨ cl9.slots.size ≤ ((0 : Int32)).toNatClampNeg) := inb_of S9 ⟨by decide, by decide⟩
  obtain ⟨T10, h10, X10, e10, W10, st10⟩ := stB X8 hx hZ e8 Ar9 (j := (0 : Int32)) hi9 (g := (mkF m 20 #[.val (.int (1 : Int32)), .val (.int x), .val (.int y), .val (.int z)] [(.int (x.toInt8.toInt32)), (.int (0 : Int32)), (.ref b8), (.ref b8)])) rfl rfl (hb hby own_d_method_2_20)
  rw [own_bb] at W10
  have g11 : n0 ≤ b8 := Nat.le_trans (own_nl O0) (Nat.le_of_eq g8.symm)
  have N10 := Fr.snoc X10 N0 g11
  have V10 : Arv Z h10 b8 k8 .byte (1 : Int32) [(.int (x.toInt8.toInt32))] (.int (0 : Int32)) := Arv.set Ar9 q9 S9 N9 H9 G9 (fits_nar_byte _) W10 0 rfl (Nat.le_of_ble_eq_true rfl)
  refine own_st (fun u_ k_ => st10 u_ k_) ?_
  show own_Go p e below _ (T10.setTop (mkF m 21 #[.val (.int (1 : Int32)), .val (.int x), .val (.int y), .val (.int z)] [(.ref b8)]))
  have K12 : Keep h0 h8 [] := (Keep.refl h0 []).ext E8
  have z14 : h0.size ≤ b8 := Nat.le_trans (Nat.le_refl _) (Nat.le_of_eq g8.symm)
  have K13 : Keep h0 h10 [] := K12.wr W10 (Or.inr z14)
  have F15 : Exa Z h10 b8 "[B" := (Exa.wr W10 Y8)
  exact own_retX X10 hx hlk hret rfl (Or.inr (Or.inr (Or.inr (Or.inr ⟨rfl, rfl, rfl⟩)))) (hb hby own_d_method_2_21) (by decide) (by decide) (show QrmK1 Z w0 wl wp mr x y z h0 n0 (some (.ref b8)) T10.heap _ from (by rw [e10]; exact ⟨b8, k8, rfl, N10, K13, z14, V10, F15⟩))
theorem own_d_method_2_22 : decode method_2_code 22 = .ok (.iload_n 0, 1) := by decide +kernel
theorem own_d_method_2_23 : decode method_2_code 23 = .ok (.iconst 2, 1) := by decide +kernel
theorem own_d_method_2_24 : decode method_2_code 24 = .ok (.if_icmp .ne 17, 3) := by decide +kernel
theorem own_d_method_2_27 : decode method_2_code 27 = .ok (.iconst 2, 1) := by decide +kernel
theorem own_d_method_2_28 : decode method_2_code 28 = .ok (.newarray .byte, 2) := by decide +kernel
theorem own_d_method_2_30 : decode method_2_code 30 = .ok (.dup, 1) := by decide +kernel
theorem own_d_method_2_31 : decode method_2_code 31 = .ok (.iconst 0, 1) := by decide +kernel
theorem own_d_method_2_32 : decode method_2_code 32 = .ok (.iload_n 1, 1) := by decide +kernel
theorem own_d_method_2_33 : decode method_2_code 33 = .ok (.i2b, 1) := by decide +kernel
theorem own_d_method_2_34 : decode method_2_code 34 = .ok (.bastore, 1) := by decide +kernel
theorem own_d_method_2_35 : decode method_2_code 35 = .ok (.dup, 1) := by decide +kernel
theorem own_d_method_2_36 : decode method_2_code 36 = .ok (.iconst 1, 1) := by decide +kernel
theorem own_d_method_2_37 : decode method_2_code 37 = .ok (.iload_n 2, 1) := by decide +kernel
theorem own_d_method_2_38 : decode method_2_code 38 = .ok (.i2b, 1) := by decide +kernel
theorem own_d_method_2_39 : decode method_2_code 39 = .ok (.bastore, 1) := by decide +kernel
theorem own_d_method_2_40 : decode method_2_code 40 = .ok (.areturn, 1) := by decide +kernel
theorem own_ef_rmK2 (m : MethodId) (x : Int32) (y : Int32) (z : Int32)  : entryFrame m #[(.int (2 : Int32)), (.int x), (.int y), (.int z)] 4 = mkF m 0 #[.val (.int (2 : Int32)), .val (.int x), .val (.int y), .val (.int z)] [] := by first | (simp [entryFrame, mkF, argsToLocals, Value.category, maxLocals]; done) | rfl
def QrmK2 (Z : State) (w0 : Addr) (wl : Addr) (wp : Addr) (mr : Addr) (x : Int32) (y : Int32) (z : Int32) (h0 : Heap) (n0 : Nat) (v : Option Value) (h : Heap) (L : List Loc) : Prop := ∃ r : Addr, ∃ kr : ClassId, v = some (.ref r) ∧ Fr n0 L ∧ Keep h0 h [] ∧ h0.size ≤ r ∧ Arv Z h r kr .byte (2 : Int32) [(.int (x.toInt8.toInt32)), (.int (y.toInt8.toInt32))] (.int (0 : Int32)) ∧ Exa Z h r "[B"
set_option maxRecDepth 65536 in
set_option maxHeartbeats 40000000 in
theorem rmK2 (l : Launch) (Z : State) (a0 : Array Value) (hw : ∀ d ∈ tables_1, d.before a0 Z = true) (ws : List Jvm.Cond) (w0 : Addr) (wl : Addr) (wp : Addr) (mr : Addr) (hS : own_S Z w0 wl wp mr) (x : Int32) (y : Int32) (z : Int32) (h0 : Heap) (n0 : Nat) (O0 : Old Z n0 h0)  :
    own_Met l (⟨"com/example/tasdik/tasdik/core/cbor/CborValueByteStringPinLaw", "make", "(IIII)[B"⟩ : MethodName) method_2_code 4 (some (.array .byte)) ws ({ frames := 0, cells := 1, slots := 2, locals := 0 } : Room) Z h0 #[(.int (2 : Int32)), (.int x), (.int y), (.int z)] (QrmK2 Z w0 wl wp mr x y z h0 n0) := by
  refine own_body (plainFor_of_name own_pn_12) ?_
  intro p e s m below meth c s₁ hx hby hml hown hnm hret hlk hZ e0 X0
  have N0 := Fr.nil n0
  refine own_st (fun u_ k_ => castTop (own_ef_rmK2 m x y z) k_) ?_
  show own_Go p e below _ (s₁.setTop (mkF m 0 #[.val (.int (2 : Int32)), .val (.int x), .val (.int y), .val (.int z)] []))
  refine own_st (fun u_ k_ => XS.iloadN X0.here hx rfl (hb hby own_d_method_2_0) rfl k_) ?_
  show own_Go p e below _ (s₁.setTop (mkF m 1 #[.val (.int (2 : Int32)), .val (.int x), .val (.int y), .val (.int z)] [(.int (2 : Int32))]))
  refine own_st (fun u_ k_ => XS.ifYes X0.here hx rfl (pc0 := 1) (pc' := 8) rfl (hb hby own_d_method_2_1) rfl (XT.i0_ne_t (by decide)) (by decide) (by decide) k_) ?_
  show own_Go p e below _ (s₁.setTop (mkF m 8 #[.val (.int (2 : Int32)), .val (.int x), .val (.int y), .val (.int z)] []))
  refine own_st (fun u_ k_ => XS.iloadN X0.here hx rfl (hb hby own_d_method_2_8) rfl k_) ?_
  show own_Go p e below _ (s₁.setTop (mkF m 9 #[.val (.int (2 : Int32)), .val (.int x), .val (.int y), .val (.int z)] [(.int (2 : Int32))]))
  refine own_st (fun u_ k_ => XS.iconst X0.here hx rfl (hb hby own_d_method_2_9) k_) ?_
  show own_Go p e below _ (s₁.setTop (mkF m 10 #[.val (.int (2 : Int32)), .val (.int x), .val (.int y), .val (.int z)] [(.int (1 : Int32)), (.int (2 : Int32))]))
  refine own_st (fun u_ k_ => XS.icmpYes X0.here hx rfl (pc0 := 10) (pc' := 22) rfl (hb hby own_d_method_2_10) rfl (XT.ii_ne_t (by decide)) (by decide) (by decide) k_) ?_
  show own_Go p e below _ (s₁.setTop (mkF m 22 #[.val (.int (2 : Int32)), .val (.int x), .val (.int y), .val (.int z)] []))
  refine own_st (fun u_ k_ => XS.iloadN X0.here hx rfl (hb hby own_d_method_2_22) rfl k_) ?_
  show own_Go p e below _ (s₁.setTop (mkF m 23 #[.val (.int (2 : Int32)), .val (.int x), .val (.int y), .val (.int z)] [(.int (2 : Int32))]))
  refine own_st (fun u_ k_ => XS.iconst X0.here hx rfl (hb hby own_d_method_2_23) k_) ?_
  show own_Go p e below _ (s₁.setTop (mkF m 24 #[.val (.int (2 : Int32)), .val (.int x), .val (.int y), .val (.int z)] [(.int (2 : Int32)), (.int (2 : Int32))]))
  refine own_st (fun u_ k_ => XS.icmpNo X0.here hx rfl (hb hby own_d_method_2_24) rfl (XT.ii_ne_f (by decide)) k_) ?_
  show own_Go p e below _ (s₁.setTop (mkF m 27 #[.val (.int (2 : Int32)), .val (.int x), .val (.int y), .val (.int z)] []))
  refine own_st (fun u_ k_ => XS.iconst X0.here hx rfl (hb hby own_d_method_2_27) k_) ?_
  show own_Go p e below _ (s₁.setTop (mkF m 28 #[.val (.int (2 : Int32)), .val (.int x), .val (.int y), .val (.int z)] [(.int (2 : Int32))]))
  obtain ⟨T16, h16, k16, X16, e16, E16, A16, Y16, st16⟩ := newPE X0 hx hZ (hw _ (List.mem_of_getElem? (i := 4) rfl)) e0 (g := (mkF m 28 #[.val (.int (2 : Int32)), .val (.int x), .val (.int y), .val (.int z)] [(.int (2 : Int32))])) rfl (hb hby own_d_method_2_28) rfl (by decide) (cap := 2) (by decide) (by decide) (by decide) (by decide) (ad := "[B") own_lm_10
  obtain ⟨b16, g16⟩ : ∃ z, z = h0.size := ⟨_, rfl⟩
  rw [← g16] at A16 Y16 st16
  have V16 : Arv Z h16 b16 k16 .byte (2 : Int32) [(.int (0 : Int32)), (.int (0 : Int32))] (.int (0 : Int32)) := (Arv.new A16 (by decide)).pad (pad_rep [] (.int (0 : Int32)) 2)
  refine own_st (fun u_ k_ => st16 u_ k_) ?_
  show own_Go p e below _ (T16.setTop (mkF m 30 #[.val (.int (2 : Int32)), .val (.int x), .val (.int y), .val (.int z)] [(.ref b16)]))
  refine own_st (fun u_ k_ => XS.dup X16.here hx rfl (hb hby own_d_method_2_30) rfl rfl k_) ?_
  show own_Go p e below _ (T16.setTop (mkF m 31 #[.val (.int (2 : Int32)), .val (.int x), .val (.int y), .val (.int z)] [(.ref b16), (.ref b16)]))
  refine own_st (fun u_ k_ => XS.iconst X16.here hx rfl (hb hby own_d_method_2_31) k_) ?_
  show own_Go p e below _ (T16.setTop (mkF m 32 #[.val (.int (2 : Int32)), .val (.int x), .val (.int y), .val (.int z)] [(.int (0 : Int32)), (.ref b16), (.ref b16)]))
  refine own_st (fun u_ k_ => XS.iloadN X16.here hx rfl (hb hby own_d_method_2_32) rfl k_) ?_
  show own_Go p e below _ (T16.setTop (mkF m 33 #[.val (.int (2 : Int32)), .val (.int x), .val (.int y), .val (.int z)] [(.int x), (.int (0 : Int32)), (.ref b16), (.ref b16)]))
  refine own_st (fun u_ k_ => XS.i2b X16.here hx rfl (hb hby own_d_method_2_33) rfl k_) ?_
  show own_Go p e below _ (T16.setTop (mkF m 34 #[.val (.int (2 : Int32)), .val (.int x), .val (.int y), .val (.int z)] [(.int (x.toInt8.toInt32)), (.int (0 : Int32)), (.ref b16), (.ref b16)]))
  obtain ⟨cl17, Ar17, q17, S17, N17, H17, G17⟩ := id V16
  have hi17 : ¬ ((0 : Int32) < 0 ∨ cl17.slots.size ≤ ((0 : Int32)).toNatClampNeg) := inb_of S17 ⟨by decide, by decide⟩
  obtain ⟨T18, h18, X18, e18, W18, st18⟩ := stB X16 hx hZ e16 Ar17 (j := (0 : Int32)) hi17 (g := (mkF m 34 #[.val (.int (2 : Int32)), .val (.int x), .val (.int y), .val (.int z)] [(.int (x.toInt8.toInt32)), (.int (0 : Int32)), (.ref b16), (.ref b16)])) rfl rfl (hb hby own_d_method_2_34)
  rw [own_bb] at W18
  have g19 : n0 ≤ b16 := Nat.le_trans (own_nl O0) (Nat.le_of_eq g16.symm)
  have N18 := Fr.snoc X18 N0 g19
  have V18 : Arv Z h18 b16 k16 .byte (2 : Int32) [(.int (x.toInt8.toInt32)), (.int (0 : Int32))] (.int (0 : Int32)) := Arv.set Ar17 q17 S17 N17 H17 G17 (fits_nar_byte _) W18 0 rfl (Nat.le_of_ble_eq_true rfl)
  refine own_st (fun u_ k_ => st18 u_ k_) ?_
  show own_Go p e below _ (T18.setTop (mkF m 35 #[.val (.int (2 : Int32)), .val (.int x), .val (.int y), .val (.int z)] [(.ref b16)]))
  refine own_st (fun u_ k_ => XS.dup X18.here hx rfl (hb hby own_d_method_2_35) rfl rfl k_) ?_
  show own_Go p e below _ (T18.setTop (mkF m 36 #[.val (.int (2 : Int32)), .val (.int x), .val (.int y), .val (.int z)] [(.ref b16), (.ref b16)]))
  refine own_st (fun u_ k_ => XS.iconst X18.here hx rfl (hb hby own_d_method_2_36) k_) ?_
  show own_Go p e below _ (T18.setTop (mkF m 37 #[.val (.int (2 : Int32)), .val (.int x), .val (.int y), .val (.int z)] [(.int (1 : Int32)), (.ref b16), (.ref b16)]))
  refine own_st (fun u_ k_ => XS.iloadN X18.here hx rfl (hb hby own_d_method_2_37) rfl k_) ?_
  show own_Go p e below _ (T18.setTop (mkF m 38 #[.val (.int (2 : Int32)), .val (.int x), .val (.int y), .val (.int z)] [(.int y), (.int (1 : Int32)), (.ref b16), (.ref b16)]))
  refine own_st (fun u_ k_ => XS.i2b X18.here hx rfl (hb hby own_d_method_2_38) rfl k_) ?_
  show own_Go p e below _ (T18.setTop (mkF m 39 #[.val (.int (2 : Int32)), .val (.int x), .val (.int y), .val (.int z)] [(.int (y.toInt8.toInt32)), (.int (1 : Int32)), (.ref b16), (.ref b16)]))
  obtain ⟨cl20, Ar20, q20, S20, N20, H20, G20⟩ := id V18
  have hi20 : ¬ ((1 : Int32) < 0 ∨ cl20.slots.size ≤ ((1 : Int32)).toNatClampNeg) := inb_of S20 ⟨by decide, by decide⟩
  obtain ⟨T21, h21, X21, e21, W21, st21⟩ := stB X18 hx hZ e18 Ar20 (j := (1 : Int32)) hi20 (g := (mkF m 39 #[.val (.int (2 : Int32)), .val (.int x), .val (.int y), .val (.int z)] [(.int (y.toInt8.toInt32)), (.int (1 : Int32)), (.ref b16), (.ref b16)])) rfl rfl (hb hby own_d_method_2_39)
  rw [own_bb] at W21
  have N21 := Fr.snoc X21 N18 g19
  have V21 : Arv Z h21 b16 k16 .byte (2 : Int32) [(.int (x.toInt8.toInt32)), (.int (y.toInt8.toInt32))] (.int (0 : Int32)) := Arv.set Ar20 q20 S20 N20 H20 G20 (fits_nar_byte _) W21 1 rfl (Nat.le_of_ble_eq_true rfl)
  refine own_st (fun u_ k_ => st21 u_ k_) ?_
  show own_Go p e below _ (T21.setTop (mkF m 40 #[.val (.int (2 : Int32)), .val (.int x), .val (.int y), .val (.int z)] [(.ref b16)]))
  have K22 : Keep h0 h16 [] := (Keep.refl h0 []).ext E16
  have z24 : h0.size ≤ b16 := Nat.le_trans (Nat.le_refl _) (Nat.le_of_eq g16.symm)
  have K23 : Keep h0 h18 [] := K22.wr W18 (Or.inr z24)
  have K25 : Keep h0 h21 [] := K23.wr W21 (Or.inr z24)
  have F26 : Exa Z h21 b16 "[B" := (Exa.wr W21 (Exa.wr W18 Y16))
  exact own_retX X21 hx hlk hret rfl (Or.inr (Or.inr (Or.inr (Or.inr ⟨rfl, rfl, rfl⟩)))) (hb hby own_d_method_2_40) (by decide) (by decide) (show QrmK2 Z w0 wl wp mr x y z h0 n0 (some (.ref b16)) T21.heap _ from (by rw [e21]; exact ⟨b16, k16, rfl, N21, K25, z24, V21, F26⟩))
theorem own_d_method_2_41 : decode method_2_code 41 = .ok (.iconst 3, 1) := by decide +kernel
theorem own_d_method_2_42 : decode method_2_code 42 = .ok (.newarray .byte, 2) := by decide +kernel
theorem own_d_method_2_44 : decode method_2_code 44 = .ok (.dup, 1) := by decide +kernel
theorem own_d_method_2_45 : decode method_2_code 45 = .ok (.iconst 0, 1) := by decide +kernel
theorem own_d_method_2_46 : decode method_2_code 46 = .ok (.iload_n 1, 1) := by decide +kernel
theorem own_d_method_2_47 : decode method_2_code 47 = .ok (.i2b, 1) := by decide +kernel
theorem own_d_method_2_48 : decode method_2_code 48 = .ok (.bastore, 1) := by decide +kernel
theorem own_d_method_2_49 : decode method_2_code 49 = .ok (.dup, 1) := by decide +kernel
theorem own_d_method_2_50 : decode method_2_code 50 = .ok (.iconst 1, 1) := by decide +kernel
theorem own_d_method_2_51 : decode method_2_code 51 = .ok (.iload_n 2, 1) := by decide +kernel
theorem own_d_method_2_52 : decode method_2_code 52 = .ok (.i2b, 1) := by decide +kernel
theorem own_d_method_2_53 : decode method_2_code 53 = .ok (.bastore, 1) := by decide +kernel
theorem own_d_method_2_54 : decode method_2_code 54 = .ok (.dup, 1) := by decide +kernel
theorem own_d_method_2_55 : decode method_2_code 55 = .ok (.iconst 2, 1) := by decide +kernel
theorem own_d_method_2_56 : decode method_2_code 56 = .ok (.iload_n 3, 1) := by decide +kernel
theorem own_d_method_2_57 : decode method_2_code 57 = .ok (.i2b, 1) := by decide +kernel
theorem own_d_method_2_58 : decode method_2_code 58 = .ok (.bastore, 1) := by decide +kernel
theorem own_d_method_2_59 : decode method_2_code 59 = .ok (.areturn, 1) := by decide +kernel
theorem own_ef_rmK3 (m : MethodId) (x : Int32) (y : Int32) (z : Int32)  : entryFrame m #[(.int (3 : Int32)), (.int x), (.int y), (.int z)] 4 = mkF m 0 #[.val (.int (3 : Int32)), .val (.int x), .val (.int y), .val (.int z)] [] := by first | (simp [entryFrame, mkF, argsToLocals, Value.category, maxLocals]; done) | rfl
def QrmK3 (Z : State) (w0 : Addr) (wl : Addr) (wp : Addr) (mr : Addr) (x : Int32) (y : Int32) (z : Int32) (h0 : Heap) (n0 : Nat) (v : Option Value) (h : Heap) (L : List Loc) : Prop := ∃ r : Addr, ∃ kr : ClassId, v = some (.ref r) ∧ Fr n0 L ∧ Keep h0 h [] ∧ h0.size ≤ r ∧ Arv Z h r kr .byte (3 : Int32) [(.int (x.toInt8.toInt32)), (.int (y.toInt8.toInt32)), (.int (z.toInt8.toInt32))] (.int (0 : Int32)) ∧ Exa Z h r "[B"
set_option maxRecDepth 65536 in
set_option maxHeartbeats 40000000 in
theorem rmK3 (l : Launch) (Z : State) (a0 : Array Value) (hw : ∀ d ∈ tables_1, d.before a0 Z = true) (ws : List Jvm.Cond) (w0 : Addr) (wl : Addr) (wp : Addr) (mr : Addr) (hS : own_S Z w0 wl wp mr) (x : Int32) (y : Int32) (z : Int32) (h0 : Heap) (n0 : Nat) (O0 : Old Z n0 h0)  :
    own_Met l (⟨"com/example/tasdik/tasdik/core/cbor/CborValueByteStringPinLaw", "make", "(IIII)[B"⟩ : MethodName) method_2_code 4 (some (.array .byte)) ws ({ frames := 0, cells := 1, slots := 3, locals := 0 } : Room) Z h0 #[(.int (3 : Int32)), (.int x), (.int y), (.int z)] (QrmK3 Z w0 wl wp mr x y z h0 n0) := by
  refine own_body (plainFor_of_name own_pn_12) ?_
  intro p e s m below meth c s₁ hx hby hml hown hnm hret hlk hZ e0 X0
  have N0 := Fr.nil n0
  refine own_st (fun u_ k_ => castTop (own_ef_rmK3 m x y z) k_) ?_
  show own_Go p e below _ (s₁.setTop (mkF m 0 #[.val (.int (3 : Int32)), .val (.int x), .val (.int y), .val (.int z)] []))
  refine own_st (fun u_ k_ => XS.iloadN X0.here hx rfl (hb hby own_d_method_2_0) rfl k_) ?_
  show own_Go p e below _ (s₁.setTop (mkF m 1 #[.val (.int (3 : Int32)), .val (.int x), .val (.int y), .val (.int z)] [(.int (3 : Int32))]))
  refine own_st (fun u_ k_ => XS.ifYes X0.here hx rfl (pc0 := 1) (pc' := 8) rfl (hb hby own_d_method_2_1) rfl (XT.i0_ne_t (by decide)) (by decide) (by decide) k_) ?_
  show own_Go p e below _ (s₁.setTop (mkF m 8 #[.val (.int (3 : Int32)), .val (.int x), .val (.int y), .val (.int z)] []))
  refine own_st (fun u_ k_ => XS.iloadN X0.here hx rfl (hb hby own_d_method_2_8) rfl k_) ?_
  show own_Go p e below _ (s₁.setTop (mkF m 9 #[.val (.int (3 : Int32)), .val (.int x), .val (.int y), .val (.int z)] [(.int (3 : Int32))]))
  refine own_st (fun u_ k_ => XS.iconst X0.here hx rfl (hb hby own_d_method_2_9) k_) ?_
  show own_Go p e below _ (s₁.setTop (mkF m 10 #[.val (.int (3 : Int32)), .val (.int x), .val (.int y), .val (.int z)] [(.int (1 : Int32)), (.int (3 : Int32))]))
  refine own_st (fun u_ k_ => XS.icmpYes X0.here hx rfl (pc0 := 10) (pc' := 22) rfl (hb hby own_d_method_2_10) rfl (XT.ii_ne_t (by decide)) (by decide) (by decide) k_) ?_
  show own_Go p e below _ (s₁.setTop (mkF m 22 #[.val (.int (3 : Int32)), .val (.int x), .val (.int y), .val (.int z)] []))
  refine own_st (fun u_ k_ => XS.iloadN X0.here hx rfl (hb hby own_d_method_2_22) rfl k_) ?_
  show own_Go p e below _ (s₁.setTop (mkF m 23 #[.val (.int (3 : Int32)), .val (.int x), .val (.int y), .val (.int z)] [(.int (3 : Int32))]))
  refine own_st (fun u_ k_ => XS.iconst X0.here hx rfl (hb hby own_d_method_2_23) k_) ?_
  show own_Go p e below _ (s₁.setTop (mkF m 24 #[.val (.int (3 : Int32)), .val (.int x), .val (.int y), .val (.int z)] [(.int (2 : Int32)), (.int (3 : Int32))]))
  refine own_st (fun u_ k_ => XS.icmpYes X0.here hx rfl (pc0 := 24) (pc' := 41) rfl (hb hby own_d_method_2_24) rfl (XT.ii_ne_t (by decide)) (by decide) (by decide) k_) ?_
  show own_Go p e below _ (s₁.setTop (mkF m 41 #[.val (.int (3 : Int32)), .val (.int x), .val (.int y), .val (.int z)] []))
  refine own_st (fun u_ k_ => XS.iconst X0.here hx rfl (hb hby own_d_method_2_41) k_) ?_
  show own_Go p e below _ (s₁.setTop (mkF m 42 #[.val (.int (3 : Int32)), .val (.int x), .val (.int y), .val (.int z)] [(.int (3 : Int32))]))
  obtain ⟨T27, h27, k27, X27, e27, E27, A27, Y27, st27⟩ := newPE X0 hx hZ (hw _ (List.mem_of_getElem? (i := 4) rfl)) e0 (g := (mkF m 42 #[.val (.int (3 : Int32)), .val (.int x), .val (.int y), .val (.int z)] [(.int (3 : Int32))])) rfl (hb hby own_d_method_2_42) rfl (by decide) (cap := 3) (by decide) (by decide) (by decide) (by decide) (ad := "[B") own_lm_10
  obtain ⟨b27, g27⟩ : ∃ z, z = h0.size := ⟨_, rfl⟩
  rw [← g27] at A27 Y27 st27
  have V27 : Arv Z h27 b27 k27 .byte (3 : Int32) [(.int (0 : Int32)), (.int (0 : Int32)), (.int (0 : Int32))] (.int (0 : Int32)) := (Arv.new A27 (by decide)).pad (pad_rep [] (.int (0 : Int32)) 3)
  refine own_st (fun u_ k_ => st27 u_ k_) ?_
  show own_Go p e below _ (T27.setTop (mkF m 44 #[.val (.int (3 : Int32)), .val (.int x), .val (.int y), .val (.int z)] [(.ref b27)]))
  refine own_st (fun u_ k_ => XS.dup X27.here hx rfl (hb hby own_d_method_2_44) rfl rfl k_) ?_
  show own_Go p e below _ (T27.setTop (mkF m 45 #[.val (.int (3 : Int32)), .val (.int x), .val (.int y), .val (.int z)] [(.ref b27), (.ref b27)]))
  refine own_st (fun u_ k_ => XS.iconst X27.here hx rfl (hb hby own_d_method_2_45) k_) ?_
  show own_Go p e below _ (T27.setTop (mkF m 46 #[.val (.int (3 : Int32)), .val (.int x), .val (.int y), .val (.int z)] [(.int (0 : Int32)), (.ref b27), (.ref b27)]))
  refine own_st (fun u_ k_ => XS.iloadN X27.here hx rfl (hb hby own_d_method_2_46) rfl k_) ?_
  show own_Go p e below _ (T27.setTop (mkF m 47 #[.val (.int (3 : Int32)), .val (.int x), .val (.int y), .val (.int z)] [(.int x), (.int (0 : Int32)), (.ref b27), (.ref b27)]))
  refine own_st (fun u_ k_ => XS.i2b X27.here hx rfl (hb hby own_d_method_2_47) rfl k_) ?_
  show own_Go p e below _ (T27.setTop (mkF m 48 #[.val (.int (3 : Int32)), .val (.int x), .val (.int y), .val (.int z)] [(.int (x.toInt8.toInt32)), (.int (0 : Int32)), (.ref b27), (.ref b27)]))
  obtain ⟨cl28, Ar28, q28, S28, N28, H28, G28⟩ := id V27
  have hi28 : ¬ ((0 : Int32) < 0 ∨ cl28.slots.size ≤ ((0 : Int32)).toNatClampNeg) := inb_of S28 ⟨by decide, by decide⟩
  obtain ⟨T29, h29, X29, e29, W29, st29⟩ := stB X27 hx hZ e27 Ar28 (j := (0 : Int32)) hi28 (g := (mkF m 48 #[.val (.int (3 : Int32)), .val (.int x), .val (.int y), .val (.int z)] [(.int (x.toInt8.toInt32)), (.int (0 : Int32)), (.ref b27), (.ref b27)])) rfl rfl (hb hby own_d_method_2_48)
  rw [own_bb] at W29
  have g30 : n0 ≤ b27 := Nat.le_trans (own_nl O0) (Nat.le_of_eq g27.symm)
  have N29 := Fr.snoc X29 N0 g30
  have V29 : Arv Z h29 b27 k27 .byte (3 : Int32) [(.int (x.toInt8.toInt32)), (.int (0 : Int32)), (.int (0 : Int32))] (.int (0 : Int32)) := Arv.set Ar28 q28 S28 N28 H28 G28 (fits_nar_byte _) W29 0 rfl (Nat.le_of_ble_eq_true rfl)
  refine own_st (fun u_ k_ => st29 u_ k_) ?_
  show own_Go p e below _ (T29.setTop (mkF m 49 #[.val (.int (3 : Int32)), .val (.int x), .val (.int y), .val (.int z)] [(.ref b27)]))
  refine own_st (fun u_ k_ => XS.dup X29.here hx rfl (hb hby own_d_method_2_49) rfl rfl k_) ?_
  show own_Go p e below _ (T29.setTop (mkF m 50 #[.val (.int (3 : Int32)), .val (.int x), .val (.int y), .val (.int z)] [(.ref b27), (.ref b27)]))
  refine own_st (fun u_ k_ => XS.iconst X29.here hx rfl (hb hby own_d_method_2_50) k_) ?_
  show own_Go p e below _ (T29.setTop (mkF m 51 #[.val (.int (3 : Int32)), .val (.int x), .val (.int y), .val (.int z)] [(.int (1 : Int32)), (.ref b27), (.ref b27)]))
  refine own_st (fun u_ k_ => XS.iloadN X29.here hx rfl (hb hby own_d_method_2_51) rfl k_) ?_
  show own_Go p e below _ (T29.setTop (mkF m 52 #[.val (.int (3 : Int32)), .val (.int x), .val (.int y), .val (.int z)] [(.int y), (.int (1 : Int32)), (.ref b27), (.ref b27)]))
  refine own_st (fun u_ k_ => XS.i2b X29.here hx rfl (hb hby own_d_method_2_52) rfl k_) ?_
  show own_Go p e below _ (T29.setTop (mkF m 53 #[.val (.int (3 : Int32)), .val (.int x), .val (.int y), .val (.int z)] [(.int (y.toInt8.toInt32)), (.int (1 : Int32)), (.ref b27), (.ref b27)]))
  obtain ⟨cl31, Ar31, q31, S31, N31, H31, G31⟩ := id V29
  have hi31 : ¬ ((1 : Int32) < 0 ∨ cl31.slots.size ≤ ((1 : Int32)).toNatClampNeg) := inb_of S31 ⟨by decide, by decide⟩
  obtain ⟨T32, h32, X32, e32, W32, st32⟩ := stB X29 hx hZ e29 Ar31 (j := (1 : Int32)) hi31 (g := (mkF m 53 #[.val (.int (3 : Int32)), .val (.int x), .val (.int y), .val (.int z)] [(.int (y.toInt8.toInt32)), (.int (1 : Int32)), (.ref b27), (.ref b27)])) rfl rfl (hb hby own_d_method_2_53)
  rw [own_bb] at W32
  have N32 := Fr.snoc X32 N29 g30
  have V32 : Arv Z h32 b27 k27 .byte (3 : Int32) [(.int (x.toInt8.toInt32)), (.int (y.toInt8.toInt32)), (.int (0 : Int32))] (.int (0 : Int32)) := Arv.set Ar31 q31 S31 N31 H31 G31 (fits_nar_byte _) W32 1 rfl (Nat.le_of_ble_eq_true rfl)
  refine own_st (fun u_ k_ => st32 u_ k_) ?_
  show own_Go p e below _ (T32.setTop (mkF m 54 #[.val (.int (3 : Int32)), .val (.int x), .val (.int y), .val (.int z)] [(.ref b27)]))
  refine own_st (fun u_ k_ => XS.dup X32.here hx rfl (hb hby own_d_method_2_54) rfl rfl k_) ?_
  show own_Go p e below _ (T32.setTop (mkF m 55 #[.val (.int (3 : Int32)), .val (.int x), .val (.int y), .val (.int z)] [(.ref b27), (.ref b27)]))
  refine own_st (fun u_ k_ => XS.iconst X32.here hx rfl (hb hby own_d_method_2_55) k_) ?_
  show own_Go p e below _ (T32.setTop (mkF m 56 #[.val (.int (3 : Int32)), .val (.int x), .val (.int y), .val (.int z)] [(.int (2 : Int32)), (.ref b27), (.ref b27)]))
  refine own_st (fun u_ k_ => XS.iloadN X32.here hx rfl (hb hby own_d_method_2_56) rfl k_) ?_
  show own_Go p e below _ (T32.setTop (mkF m 57 #[.val (.int (3 : Int32)), .val (.int x), .val (.int y), .val (.int z)] [(.int z), (.int (2 : Int32)), (.ref b27), (.ref b27)]))
  refine own_st (fun u_ k_ => XS.i2b X32.here hx rfl (hb hby own_d_method_2_57) rfl k_) ?_
  show own_Go p e below _ (T32.setTop (mkF m 58 #[.val (.int (3 : Int32)), .val (.int x), .val (.int y), .val (.int z)] [(.int (z.toInt8.toInt32)), (.int (2 : Int32)), (.ref b27), (.ref b27)]))
  obtain ⟨cl33, Ar33, q33, S33, N33, H33, G33⟩ := id V32
  have hi33 : ¬ ((2 : Int32) < 0 ∨ cl33.slots.size ≤ ((2 : Int32)).toNatClampNeg) := inb_of S33 ⟨by decide, by decide⟩
  obtain ⟨T34, h34, X34, e34, W34, st34⟩ := stB X32 hx hZ e32 Ar33 (j := (2 : Int32)) hi33 (g := (mkF m 58 #[.val (.int (3 : Int32)), .val (.int x), .val (.int y), .val (.int z)] [(.int (z.toInt8.toInt32)), (.int (2 : Int32)), (.ref b27), (.ref b27)])) rfl rfl (hb hby own_d_method_2_58)
  rw [own_bb] at W34
  have N34 := Fr.snoc X34 N32 g30
  have V34 : Arv Z h34 b27 k27 .byte (3 : Int32) [(.int (x.toInt8.toInt32)), (.int (y.toInt8.toInt32)), (.int (z.toInt8.toInt32))] (.int (0 : Int32)) := Arv.set Ar33 q33 S33 N33 H33 G33 (fits_nar_byte _) W34 2 rfl (Nat.le_of_ble_eq_true rfl)
  refine own_st (fun u_ k_ => st34 u_ k_) ?_
  show own_Go p e below _ (T34.setTop (mkF m 59 #[.val (.int (3 : Int32)), .val (.int x), .val (.int y), .val (.int z)] [(.ref b27)]))
  have K35 : Keep h0 h27 [] := (Keep.refl h0 []).ext E27
  have z37 : h0.size ≤ b27 := Nat.le_trans (Nat.le_refl _) (Nat.le_of_eq g27.symm)
  have K36 : Keep h0 h29 [] := K35.wr W29 (Or.inr z37)
  have K38 : Keep h0 h32 [] := K36.wr W32 (Or.inr z37)
  have K39 : Keep h0 h34 [] := K38.wr W34 (Or.inr z37)
  have F40 : Exa Z h34 b27 "[B" := (Exa.wr W34 (Exa.wr W32 (Exa.wr W29 Y27)))
  exact own_retX X34 hx hlk hret rfl (Or.inr (Or.inr (Or.inr (Or.inr ⟨rfl, rfl, rfl⟩)))) (hb hby own_d_method_2_59) (by decide) (by decide) (show QrmK3 Z w0 wl wp mr x y z h0 n0 (some (.ref b27)) T34.heap _ from (by rw [e34]; exact ⟨b27, k27, rfl, N34, K39, z37, V34, F40⟩))
theorem own_d_prog_21_1_0 : decode prog_21_method_1_code 0 = .ok (.aload_n 0, 1) := by decide +kernel
theorem own_d_prog_21_1_1 : decode prog_21_method_1_code 1 = .ok (.invokespecial 1, 3) := by decide +kernel
theorem own_d_prog_21_1_4 : decode prog_21_method_1_code 4 = .ok (.aload_n 0, 1) := by decide +kernel
theorem own_d_prog_21_1_5 : decode prog_21_method_1_code 5 = .ok (.aload_n 1, 1) := by decide +kernel
theorem own_d_prog_21_1_6 : decode prog_21_method_1_code 6 = .ok (.putfield 7, 3) := by decide +kernel
theorem own_lm_63 : parseFieldDescriptor "Lcom/example/tasdik/tasdik/core/cbor/CborValue$Type;" = some (.object "com/example/tasdik/tasdik/core/cbor/CborValue$Type") := by decide +kernel
theorem own_d_prog_21_1_9 : decode prog_21_method_1_code 9 = .ok (.aload_n 0, 1) := by decide +kernel
theorem own_d_prog_21_1_10 : decode prog_21_method_1_code 10 = .ok (.aload_n 2, 1) := by decide +kernel
theorem own_d_prog_21_1_11 : decode prog_21_method_1_code 11 = .ok (.putfield 13, 3) := by decide +kernel
theorem own_lm_67 : ("number" : String) ≠ "type" := by decide +kernel
theorem own_lm_68 : parseFieldDescriptor "Ljava/math/BigInteger;" = some (.object "java/math/BigInteger") := by decide +kernel
theorem own_d_prog_21_1_14 : decode prog_21_method_1_code 14 = .ok (.aload_n 0, 1) := by decide +kernel
theorem own_d_prog_21_1_15 : decode prog_21_method_1_code 15 = .ok (.dload_n 3, 1) := by decide +kernel
theorem own_d_prog_21_1_16 : decode prog_21_method_1_code 16 = .ok (.putfield 17, 3) := by decide +kernel
theorem own_lm_72 : ("floatValue" : String) ≠ "type" := by decide +kernel
theorem own_lm_73 : parseFieldDescriptor "D" = some .double := by decide +kernel
theorem own_lm_74 : ("floatValue" : String) ≠ "number" := by decide +kernel
theorem own_d_prog_21_1_19 : decode prog_21_method_1_code 19 = .ok (.aload_n 0, 1) := by decide +kernel
theorem own_d_prog_21_1_20 : decode prog_21_method_1_code 20 = .ok (.aload 5, 2) := by decide +kernel
theorem own_d_prog_21_1_22 : decode prog_21_method_1_code 22 = .ok (.putfield 21, 3) := by decide +kernel
theorem own_lm_78 : ("bytes" : String) ≠ "type" := by decide +kernel
theorem own_lm_79 : parseFieldDescriptor "[B" = some (.array .byte) := by decide +kernel
theorem own_lm_80 : ("bytes" : String) ≠ "number" := by decide +kernel
theorem own_lm_81 : ("bytes" : String) ≠ "floatValue" := by decide +kernel
theorem own_d_prog_21_1_25 : decode prog_21_method_1_code 25 = .ok (.aload_n 0, 1) := by decide +kernel
theorem own_d_prog_21_1_26 : decode prog_21_method_1_code 26 = .ok (.aload 6, 2) := by decide +kernel
theorem own_d_prog_21_1_28 : decode prog_21_method_1_code 28 = .ok (.putfield 25, 3) := by decide +kernel
theorem own_lm_85 : ("text" : String) ≠ "type" := by decide +kernel
theorem own_lm_86 : parseFieldDescriptor "Ljava/lang/String;" = some (.object "java/lang/String") := by decide +kernel
theorem own_lm_87 : ("text" : String) ≠ "number" := by decide +kernel
theorem own_lm_88 : ("text" : String) ≠ "floatValue" := by decide +kernel
theorem own_lm_89 : ("text" : String) ≠ "bytes" := by decide +kernel
theorem own_d_prog_21_1_31 : decode prog_21_method_1_code 31 = .ok (.aload_n 0, 1) := by decide +kernel
theorem own_d_prog_21_1_32 : decode prog_21_method_1_code 32 = .ok (.aload 7, 2) := by decide +kernel
theorem own_d_prog_21_1_34 : decode prog_21_method_1_code 34 = .ok (.putfield 29, 3) := by decide +kernel
theorem own_lm_93 : ("items" : String) ≠ "type" := by decide +kernel
theorem own_lm_94 : parseFieldDescriptor "Ljava/util/List;" = some (.object "java/util/List") := by decide +kernel
theorem own_lm_95 : ("items" : String) ≠ "number" := by decide +kernel
theorem own_lm_96 : ("items" : String) ≠ "floatValue" := by decide +kernel
theorem own_lm_97 : ("items" : String) ≠ "bytes" := by decide +kernel
theorem own_lm_98 : ("items" : String) ≠ "text" := by decide +kernel
theorem own_d_prog_21_1_37 : decode prog_21_method_1_code 37 = .ok (.aload_n 0, 1) := by decide +kernel
theorem own_d_prog_21_1_38 : decode prog_21_method_1_code 38 = .ok (.aload 8, 2) := by decide +kernel
theorem own_d_prog_21_1_40 : decode prog_21_method_1_code 40 = .ok (.putfield 33, 3) := by decide +kernel
theorem own_lm_102 : ("entries" : String) ≠ "type" := by decide +kernel
theorem own_lm_103 : parseFieldDescriptor "Ljava/util/Map;" = some (.object "java/util/Map") := by decide +kernel
theorem own_lm_104 : ("entries" : String) ≠ "number" := by decide +kernel
theorem own_lm_105 : ("entries" : String) ≠ "floatValue" := by decide +kernel
theorem own_lm_106 : ("entries" : String) ≠ "bytes" := by decide +kernel
theorem own_lm_107 : ("entries" : String) ≠ "text" := by decide +kernel
theorem own_lm_108 : ("entries" : String) ≠ "items" := by decide +kernel
theorem own_d_prog_21_1_43 : decode prog_21_method_1_code 43 = .ok (.return_, 1) := by decide +kernel
theorem own_lm_110 : ("type" : String) ≠ "number" := by decide +kernel
theorem own_lm_111 : ("type" : String) ≠ "floatValue" := by decide +kernel
theorem own_lm_112 : ("type" : String) ≠ "bytes" := by decide +kernel
theorem own_lm_113 : ("type" : String) ≠ "text" := by decide +kernel
theorem own_lm_114 : ("type" : String) ≠ "items" := by decide +kernel
theorem own_lm_115 : ("type" : String) ≠ "entries" := by decide +kernel
theorem own_lm_116 : ("bytes" : String) ≠ "text" := by decide +kernel
theorem own_lm_117 : ("bytes" : String) ≠ "items" := by decide +kernel
theorem own_lm_118 : ("bytes" : String) ≠ "entries" := by decide +kernel
theorem own_pn_119 : plainName "com/example/tasdik/tasdik/core/cbor/CborValue" = true := by first | (simp [plainName, overriddenIn]; done) | decide +kernel
theorem own_ef_rmI (m : MethodId) (a : Addr) (t : Addr) (b : Addr) (li : Addr) (mp : Addr)  : entryFrame m #[(.ref a), (.ref t), .null, (.double (0 : UInt64)), (.ref b), .null, (.ref li), (.ref mp)] 9 = mkF m 0 #[.val (.ref a), .val (.ref t), .val .null, .val (.double (0 : UInt64)), .second, .val (.ref b), .val .null, .val (.ref li), .val (.ref mp)] [] := by first | (simp [entryFrame, mkF, argsToLocals, Value.category, maxLocals]; done) | rfl
def QrmI (Z : State) (w0 : Addr) (wl : Addr) (wp : Addr) (mr : Addr) (a : Addr) (t : Addr) (b : Addr) (li : Addr) (mp : Addr) (h0 : Heap) (n0 : Nat) (v : Option Value) (h : Heap) (L : List Loc) : Prop := v = none ∧ Fr n0 L ∧ Keep h0 h [a] ∧ Exa Z h a "com/example/tasdik/tasdik/core/cbor/CborValue" ∧ Fld Z h a "com/example/tasdik/tasdik/core/cbor/CborValue" "type" "Lcom/example/tasdik/tasdik/core/cbor/CborValue$Type;" (.ref t) ∧ Fld Z h a "com/example/tasdik/tasdik/core/cbor/CborValue" "bytes" "[B" (.ref b)
set_option maxRecDepth 65536 in
set_option maxHeartbeats 40000000 in
theorem rmI (l : Launch) (Z : State) (a0 : Array Value) (hw : ∀ d ∈ tables_1, d.before a0 Z = true) (ws : List Jvm.Cond) (w0 : Addr) (wl : Addr) (wp : Addr) (mr : Addr) (hS : own_S Z w0 wl wp mr) (a : Addr) (t : Addr) (b : Addr) (li : Addr) (mp : Addr) (h0 : Heap) (n0 : Nat) (O0 : Old Z n0 h0) (E : Exa Z h0 a "com/example/tasdik/tasdik/core/cbor/CborValue") (ga : n0 ≤ a) (F0 : Fld Z h0 a "com/example/tasdik/tasdik/core/cbor/CborValue" "type" "Lcom/example/tasdik/tasdik/core/cbor/CborValue$Type;" .null) (F1 : Fld Z h0 a "com/example/tasdik/tasdik/core/cbor/CborValue" "number" "Ljava/math/BigInteger;" .null) (F2 : Fld Z h0 a "com/example/tasdik/tasdik/core/cbor/CborValue" "floatValue" "D" (.double (0 : UInt64))) (F3 : Fld Z h0 a "com/example/tasdik/tasdik/core/cbor/CborValue" "bytes" "[B" .null) (F4 : Fld Z h0 a "com/example/tasdik/tasdik/core/cbor/CborValue" "text" "Ljava/lang/String;" .null) (F5 : Fld Z h0 a "com/example/tasdik/tasdik/core/cbor/CborValue" "items" "Ljava/util/List;" .null) (F6 : Fld Z h0 a "com/example/tasdik/tasdik/core/cbor/CborValue" "entries" "Ljava/util/Map;" .null) :
    own_Met l (⟨"com/example/tasdik/tasdik/core/cbor/CborValue", "<init>", "(Lcom/example/tasdik/tasdik/core/cbor/CborValue$Type;Ljava/math/BigInteger;D[BLjava/lang/String;Ljava/util/List;Ljava/util/Map;)V"⟩ : MethodName) prog_21_method_1_code 9 none ws ({ frames := 1, cells := 0, slots := 0, locals := 12 } : Room) Z h0 #[(.ref a), (.ref t), .null, (.double (0 : UInt64)), (.ref b), .null, (.ref li), (.ref mp)] (QrmI Z w0 wl wp mr a t b li mp h0 n0) := by
  refine own_body (plainFor_of_name own_pn_119) ?_
  intro p e s m below meth c s₁ hx hby hml hown hnm hret hlk hZ e0 X0
  have N0 := Fr.nil n0
  refine own_st (fun u_ k_ => castTop (own_ef_rmI m a t b li mp) k_) ?_
  show own_Go p e below _ (s₁.setTop (mkF m 0 #[.val (.ref a), .val (.ref t), .val .null, .val (.double (0 : UInt64)), .second, .val (.ref b), .val .null, .val (.ref li), .val (.ref mp)] []))
  refine own_st (fun u_ k_ => XS.aloadN X0.here hx rfl (hb hby own_d_prog_21_1_0) rfl rfl k_) ?_
  show own_Go p e below _ (s₁.setTop (mkF m 1 #[.val (.ref a), .val (.ref t), .val .null, .val (.double (0 : UInt64)), .second, .val (.ref b), .val .null, .val (.ref li), .val (.ref mp)] [(.ref a)]))
  obtain ⟨T41, X41, e41, st41⟩ := initO X0 hx hZ hown (hw _ (List.mem_of_getElem? (i := 28) rfl)) (hw _ (List.mem_of_getElem? (i := 29) rfl)) (hw _ (List.mem_of_getElem? (i := 30) rfl)) e0 (g := (mkF m 1 #[.val (.ref a), .val (.ref t), .val .null, .val (.double (0 : UInt64)), .second, .val (.ref b), .val .null, .val (.ref li), .val (.ref mp)] [(.ref a)])) rfl (by rw [hml]; rfl) rfl (hb hby own_d_prog_21_1_1) (by decide) (W := 0) (by show 2 * 0 + _ ≤ _; exact Nat.le_of_eq rfl) (by decide)
  refine own_st (fun u_ k_ => st41 u_ k_) ?_
  show own_Go p e below _ (T41.setTop (mkF m 4 #[.val (.ref a), .val (.ref t), .val .null, .val (.double (0 : UInt64)), .second, .val (.ref b), .val .null, .val (.ref li), .val (.ref mp)] []))
  refine own_st (fun u_ k_ => XS.aloadN X41.here hx rfl (hb hby own_d_prog_21_1_4) rfl rfl k_) ?_
  show own_Go p e below _ (T41.setTop (mkF m 5 #[.val (.ref a), .val (.ref t), .val .null, .val (.double (0 : UInt64)), .second, .val (.ref b), .val .null, .val (.ref li), .val (.ref mp)] [(.ref a)]))
  refine own_st (fun u_ k_ => XS.aloadN X41.here hx rfl (hb hby own_d_prog_21_1_5) rfl rfl k_) ?_
  show own_Go p e below _ (T41.setTop (mkF m 6 #[.val (.ref a), .val (.ref t), .val .null, .val (.double (0 : UInt64)), .second, .val (.ref b), .val .null, .val (.ref li), .val (.ref mp)] [(.ref t), (.ref a)]))
  obtain ⟨T42, h42, X42, e42, W42, st42⟩ := putF X41 hx hZ hown (host := "") (Or.inl (hw _ (List.mem_of_getElem? (i := 31) rfl))) Via.refl e41 F0 E (Or.inr ⟨(hw _ (List.mem_of_getElem? (i := 32) rfl)), rfl, hnm⟩) (hw _ (List.mem_of_getElem? (i := 10) rfl)) (ty := (.object "com/example/tasdik/tasdik/core/cbor/CborValue$Type")) own_lm_63 rfl rfl (g := (mkF m 6 #[.val (.ref a), .val (.ref t), .val .null, .val (.double (0 : UInt64)), .second, .val (.ref b), .val .null, .val (.ref li), .val (.ref mp)] [(.ref t), (.ref a)])) rfl rfl (hb hby own_d_prog_21_1_6)
  have N42 := Fr.snoc X42 N0 ga
  have F43 : Fld Z h42 a "com/example/tasdik/tasdik/core/cbor/CborValue" "type" "Lcom/example/tasdik/tasdik/core/cbor/CborValue$Type;" (.ref t) := Fld.same W42 F0
  refine own_st (fun u_ k_ => st42 u_ k_) ?_
  show own_Go p e below _ (T42.setTop (mkF m 9 #[.val (.ref a), .val (.ref t), .val .null, .val (.double (0 : UInt64)), .second, .val (.ref b), .val .null, .val (.ref li), .val (.ref mp)] []))
  refine own_st (fun u_ k_ => XS.aloadN X42.here hx rfl (hb hby own_d_prog_21_1_9) rfl rfl k_) ?_
  show own_Go p e below _ (T42.setTop (mkF m 10 #[.val (.ref a), .val (.ref t), .val .null, .val (.double (0 : UInt64)), .second, .val (.ref b), .val .null, .val (.ref li), .val (.ref mp)] [(.ref a)]))
  refine own_st (fun u_ k_ => XS.aloadN X42.here hx rfl (hb hby own_d_prog_21_1_10) rfl rfl k_) ?_
  show own_Go p e below _ (T42.setTop (mkF m 11 #[.val (.ref a), .val (.ref t), .val .null, .val (.double (0 : UInt64)), .second, .val (.ref b), .val .null, .val (.ref li), .val (.ref mp)] [.null, (.ref a)]))
  have F44 : Exa Z h42 a "com/example/tasdik/tasdik/core/cbor/CborValue" := (Exa.wr W42 E)
  have F45 : Fld Z h42 a "com/example/tasdik/tasdik/core/cbor/CborValue" "number" "Ljava/math/BigInteger;" .null := (Fld.other W42 F1 (Or.inr (slot_ne (Or.inr (hw _ (List.mem_of_getElem? (i := 34) rfl))) (Or.inr (hw _ (List.mem_of_getElem? (i := 32) rfl))) own_lm_67 (t := (.object "java/math/BigInteger")) (t' := (.object "com/example/tasdik/tasdik/core/cbor/CborValue$Type")) own_lm_68 own_lm_63)))
  obtain ⟨T46, h46, X46, e46, W46, st46⟩ := putF X42 hx hZ hown (host := "") (Or.inl (hw _ (List.mem_of_getElem? (i := 33) rfl))) Via.refl e42 F45 F44 (Or.inr ⟨(hw _ (List.mem_of_getElem? (i := 34) rfl)), rfl, hnm⟩) (hw _ (List.mem_of_getElem? (i := 10) rfl)) (ty := (.object "java/math/BigInteger")) own_lm_68 rfl rfl (g := (mkF m 11 #[.val (.ref a), .val (.ref t), .val .null, .val (.double (0 : UInt64)), .second, .val (.ref b), .val .null, .val (.ref li), .val (.ref mp)] [.null, (.ref a)])) rfl rfl (hb hby own_d_prog_21_1_11)
  have N46 := Fr.snoc X46 N42 ga
  have F47 : Fld Z h46 a "com/example/tasdik/tasdik/core/cbor/CborValue" "number" "Ljava/math/BigInteger;" .null := Fld.same W46 F45
  refine own_st (fun u_ k_ => st46 u_ k_) ?_
  show own_Go p e below _ (T46.setTop (mkF m 14 #[.val (.ref a), .val (.ref t), .val .null, .val (.double (0 : UInt64)), .second, .val (.ref b), .val .null, .val (.ref li), .val (.ref mp)] []))
  refine own_st (fun u_ k_ => XS.aloadN X46.here hx rfl (hb hby own_d_prog_21_1_14) rfl rfl k_) ?_
  show own_Go p e below _ (T46.setTop (mkF m 15 #[.val (.ref a), .val (.ref t), .val .null, .val (.double (0 : UInt64)), .second, .val (.ref b), .val .null, .val (.ref li), .val (.ref mp)] [(.ref a)]))
  refine own_st (fun u_ k_ => XS.dloadN X46.here hx rfl (hb hby own_d_prog_21_1_15) rfl k_) ?_
  show own_Go p e below _ (T46.setTop (mkF m 16 #[.val (.ref a), .val (.ref t), .val .null, .val (.double (0 : UInt64)), .second, .val (.ref b), .val .null, .val (.ref li), .val (.ref mp)] [(.double (0 : UInt64)), (.ref a)]))
  have F48 : Exa Z h46 a "com/example/tasdik/tasdik/core/cbor/CborValue" := (Exa.wr W46 F44)
  have F49 : Fld Z h46 a "com/example/tasdik/tasdik/core/cbor/CborValue" "floatValue" "D" (.double (0 : UInt64)) := (Fld.other W46 (Fld.other W42 F2 (Or.inr (slot_ne (Or.inr (hw _ (List.mem_of_getElem? (i := 36) rfl))) (Or.inr (hw _ (List.mem_of_getElem? (i := 32) rfl))) own_lm_72 (t := .double) (t' := (.object "com/example/tasdik/tasdik/core/cbor/CborValue$Type")) own_lm_73 own_lm_63))) (Or.inr (slot_ne (Or.inr (hw _ (List.mem_of_getElem? (i := 36) rfl))) (Or.inr (hw _ (List.mem_of_getElem? (i := 34) rfl))) own_lm_74 (t := .double) (t' := (.object "java/math/BigInteger")) own_lm_73 own_lm_68)))
  obtain ⟨T50, h50, X50, e50, W50, st50⟩ := putF X46 hx hZ hown (host := "") (Or.inl (hw _ (List.mem_of_getElem? (i := 35) rfl))) Via.refl e46 F49 F48 (Or.inr ⟨(hw _ (List.mem_of_getElem? (i := 36) rfl)), rfl, hnm⟩) (hw _ (List.mem_of_getElem? (i := 10) rfl)) (ty := .double) own_lm_73 rfl rfl (g := (mkF m 16 #[.val (.ref a), .val (.ref t), .val .null, .val (.double (0 : UInt64)), .second, .val (.ref b), .val .null, .val (.ref li), .val (.ref mp)] [(.double (0 : UInt64)), (.ref a)])) rfl rfl (hb hby own_d_prog_21_1_16)
  have N50 := Fr.snoc X50 N46 ga
  have F51 : Fld Z h50 a "com/example/tasdik/tasdik/core/cbor/CborValue" "floatValue" "D" (.double (0 : UInt64)) := Fld.same W50 F49
  refine own_st (fun u_ k_ => st50 u_ k_) ?_
  show own_Go p e below _ (T50.setTop (mkF m 19 #[.val (.ref a), .val (.ref t), .val .null, .val (.double (0 : UInt64)), .second, .val (.ref b), .val .null, .val (.ref li), .val (.ref mp)] []))
  refine own_st (fun u_ k_ => XS.aloadN X50.here hx rfl (hb hby own_d_prog_21_1_19) rfl rfl k_) ?_
  show own_Go p e below _ (T50.setTop (mkF m 20 #[.val (.ref a), .val (.ref t), .val .null, .val (.double (0 : UInt64)), .second, .val (.ref b), .val .null, .val (.ref li), .val (.ref mp)] [(.ref a)]))
  refine own_st (fun u_ k_ => XS.aload X50.here hx rfl (hb hby own_d_prog_21_1_20) rfl rfl k_) ?_
  show own_Go p e below _ (T50.setTop (mkF m 22 #[.val (.ref a), .val (.ref t), .val .null, .val (.double (0 : UInt64)), .second, .val (.ref b), .val .null, .val (.ref li), .val (.ref mp)] [(.ref b), (.ref a)]))
  have F52 : Exa Z h50 a "com/example/tasdik/tasdik/core/cbor/CborValue" := (Exa.wr W50 F48)
  have F53 : Fld Z h50 a "com/example/tasdik/tasdik/core/cbor/CborValue" "bytes" "[B" .null := (Fld.other W50 (Fld.other W46 (Fld.other W42 F3 (Or.inr (slot_ne (Or.inr (hw _ (List.mem_of_getElem? (i := 38) rfl))) (Or.inr (hw _ (List.mem_of_getElem? (i := 32) rfl))) own_lm_78 (t := (.array .byte)) (t' := (.object "com/example/tasdik/tasdik/core/cbor/CborValue$Type")) own_lm_79 own_lm_63))) (Or.inr (slot_ne (Or.inr (hw _ (List.mem_of_getElem? (i := 38) rfl))) (Or.inr (hw _ (List.mem_of_getElem? (i := 34) rfl))) own_lm_80 (t := (.array .byte)) (t' := (.object "java/math/BigInteger")) own_lm_79 own_lm_68))) (Or.inr (slot_ne (Or.inr (hw _ (List.mem_of_getElem? (i := 38) rfl))) (Or.inr (hw _ (List.mem_of_getElem? (i := 36) rfl))) own_lm_81 (t := (.array .byte)) (t' := .double) own_lm_79 own_lm_73)))
  obtain ⟨T54, h54, X54, e54, W54, st54⟩ := putF X50 hx hZ hown (host := "") (Or.inl (hw _ (List.mem_of_getElem? (i := 37) rfl))) Via.refl e50 F53 F52 (Or.inr ⟨(hw _ (List.mem_of_getElem? (i := 38) rfl)), rfl, hnm⟩) (hw _ (List.mem_of_getElem? (i := 10) rfl)) (ty := (.array .byte)) own_lm_79 rfl rfl (g := (mkF m 22 #[.val (.ref a), .val (.ref t), .val .null, .val (.double (0 : UInt64)), .second, .val (.ref b), .val .null, .val (.ref li), .val (.ref mp)] [(.ref b), (.ref a)])) rfl rfl (hb hby own_d_prog_21_1_22)
  have N54 := Fr.snoc X54 N50 ga
  have F55 : Fld Z h54 a "com/example/tasdik/tasdik/core/cbor/CborValue" "bytes" "[B" (.ref b) := Fld.same W54 F53
  refine own_st (fun u_ k_ => st54 u_ k_) ?_
  show own_Go p e below _ (T54.setTop (mkF m 25 #[.val (.ref a), .val (.ref t), .val .null, .val (.double (0 : UInt64)), .second, .val (.ref b), .val .null, .val (.ref li), .val (.ref mp)] []))
  refine own_st (fun u_ k_ => XS.aloadN X54.here hx rfl (hb hby own_d_prog_21_1_25) rfl rfl k_) ?_
  show own_Go p e below _ (T54.setTop (mkF m 26 #[.val (.ref a), .val (.ref t), .val .null, .val (.double (0 : UInt64)), .second, .val (.ref b), .val .null, .val (.ref li), .val (.ref mp)] [(.ref a)]))
  refine own_st (fun u_ k_ => XS.aload X54.here hx rfl (hb hby own_d_prog_21_1_26) rfl rfl k_) ?_
  show own_Go p e below _ (T54.setTop (mkF m 28 #[.val (.ref a), .val (.ref t), .val .null, .val (.double (0 : UInt64)), .second, .val (.ref b), .val .null, .val (.ref li), .val (.ref mp)] [.null, (.ref a)]))
  have F56 : Exa Z h54 a "com/example/tasdik/tasdik/core/cbor/CborValue" := (Exa.wr W54 F52)
  have F57 : Fld Z h54 a "com/example/tasdik/tasdik/core/cbor/CborValue" "text" "Ljava/lang/String;" .null := (Fld.other W54 (Fld.other W50 (Fld.other W46 (Fld.other W42 F4 (Or.inr (slot_ne (Or.inr (hw _ (List.mem_of_getElem? (i := 40) rfl))) (Or.inr (hw _ (List.mem_of_getElem? (i := 32) rfl))) own_lm_85 (t := (.object "java/lang/String")) (t' := (.object "com/example/tasdik/tasdik/core/cbor/CborValue$Type")) own_lm_86 own_lm_63))) (Or.inr (slot_ne (Or.inr (hw _ (List.mem_of_getElem? (i := 40) rfl))) (Or.inr (hw _ (List.mem_of_getElem? (i := 34) rfl))) own_lm_87 (t := (.object "java/lang/String")) (t' := (.object "java/math/BigInteger")) own_lm_86 own_lm_68))) (Or.inr (slot_ne (Or.inr (hw _ (List.mem_of_getElem? (i := 40) rfl))) (Or.inr (hw _ (List.mem_of_getElem? (i := 36) rfl))) own_lm_88 (t := (.object "java/lang/String")) (t' := .double) own_lm_86 own_lm_73))) (Or.inr (slot_ne (Or.inr (hw _ (List.mem_of_getElem? (i := 40) rfl))) (Or.inr (hw _ (List.mem_of_getElem? (i := 38) rfl))) own_lm_89 (t := (.object "java/lang/String")) (t' := (.array .byte)) own_lm_86 own_lm_79)))
  obtain ⟨T58, h58, X58, e58, W58, st58⟩ := putF X54 hx hZ hown (host := "") (Or.inl (hw _ (List.mem_of_getElem? (i := 39) rfl))) Via.refl e54 F57 F56 (Or.inr ⟨(hw _ (List.mem_of_getElem? (i := 40) rfl)), rfl, hnm⟩) (hw _ (List.mem_of_getElem? (i := 10) rfl)) (ty := (.object "java/lang/String")) own_lm_86 rfl rfl (g := (mkF m 28 #[.val (.ref a), .val (.ref t), .val .null, .val (.double (0 : UInt64)), .second, .val (.ref b), .val .null, .val (.ref li), .val (.ref mp)] [.null, (.ref a)])) rfl rfl (hb hby own_d_prog_21_1_28)
  have N58 := Fr.snoc X58 N54 ga
  have F59 : Fld Z h58 a "com/example/tasdik/tasdik/core/cbor/CborValue" "text" "Ljava/lang/String;" .null := Fld.same W58 F57
  refine own_st (fun u_ k_ => st58 u_ k_) ?_
  show own_Go p e below _ (T58.setTop (mkF m 31 #[.val (.ref a), .val (.ref t), .val .null, .val (.double (0 : UInt64)), .second, .val (.ref b), .val .null, .val (.ref li), .val (.ref mp)] []))
  refine own_st (fun u_ k_ => XS.aloadN X58.here hx rfl (hb hby own_d_prog_21_1_31) rfl rfl k_) ?_
  show own_Go p e below _ (T58.setTop (mkF m 32 #[.val (.ref a), .val (.ref t), .val .null, .val (.double (0 : UInt64)), .second, .val (.ref b), .val .null, .val (.ref li), .val (.ref mp)] [(.ref a)]))
  refine own_st (fun u_ k_ => XS.aload X58.here hx rfl (hb hby own_d_prog_21_1_32) rfl rfl k_) ?_
  show own_Go p e below _ (T58.setTop (mkF m 34 #[.val (.ref a), .val (.ref t), .val .null, .val (.double (0 : UInt64)), .second, .val (.ref b), .val .null, .val (.ref li), .val (.ref mp)] [(.ref li), (.ref a)]))
  have F60 : Exa Z h58 a "com/example/tasdik/tasdik/core/cbor/CborValue" := (Exa.wr W58 F56)
  have F61 : Fld Z h58 a "com/example/tasdik/tasdik/core/cbor/CborValue" "items" "Ljava/util/List;" .null := (Fld.other W58 (Fld.other W54 (Fld.other W50 (Fld.other W46 (Fld.other W42 F5 (Or.inr (slot_ne (Or.inr (hw _ (List.mem_of_getElem? (i := 42) rfl))) (Or.inr (hw _ (List.mem_of_getElem? (i := 32) rfl))) own_lm_93 (t := (.object "java/util/List")) (t' := (.object "com/example/tasdik/tasdik/core/cbor/CborValue$Type")) own_lm_94 own_lm_63))) (Or.inr (slot_ne (Or.inr (hw _ (List.mem_of_getElem? (i := 42) rfl))) (Or.inr (hw _ (List.mem_of_getElem? (i := 34) rfl))) own_lm_95 (t := (.object "java/util/List")) (t' := (.object "java/math/BigInteger")) own_lm_94 own_lm_68))) (Or.inr (slot_ne (Or.inr (hw _ (List.mem_of_getElem? (i := 42) rfl))) (Or.inr (hw _ (List.mem_of_getElem? (i := 36) rfl))) own_lm_96 (t := (.object "java/util/List")) (t' := .double) own_lm_94 own_lm_73))) (Or.inr (slot_ne (Or.inr (hw _ (List.mem_of_getElem? (i := 42) rfl))) (Or.inr (hw _ (List.mem_of_getElem? (i := 38) rfl))) own_lm_97 (t := (.object "java/util/List")) (t' := (.array .byte)) own_lm_94 own_lm_79))) (Or.inr (slot_ne (Or.inr (hw _ (List.mem_of_getElem? (i := 42) rfl))) (Or.inr (hw _ (List.mem_of_getElem? (i := 40) rfl))) own_lm_98 (t := (.object "java/util/List")) (t' := (.object "java/lang/String")) own_lm_94 own_lm_86)))
  obtain ⟨T62, h62, X62, e62, W62, st62⟩ := putF X58 hx hZ hown (host := "") (Or.inl (hw _ (List.mem_of_getElem? (i := 41) rfl))) Via.refl e58 F61 F60 (Or.inr ⟨(hw _ (List.mem_of_getElem? (i := 42) rfl)), rfl, hnm⟩) (hw _ (List.mem_of_getElem? (i := 10) rfl)) (ty := (.object "java/util/List")) own_lm_94 rfl rfl (g := (mkF m 34 #[.val (.ref a), .val (.ref t), .val .null, .val (.double (0 : UInt64)), .second, .val (.ref b), .val .null, .val (.ref li), .val (.ref mp)] [(.ref li), (.ref a)])) rfl rfl (hb hby own_d_prog_21_1_34)
  have N62 := Fr.snoc X62 N58 ga
  have F63 : Fld Z h62 a "com/example/tasdik/tasdik/core/cbor/CborValue" "items" "Ljava/util/List;" (.ref li) := Fld.same W62 F61
  refine own_st (fun u_ k_ => st62 u_ k_) ?_
  show own_Go p e below _ (T62.setTop (mkF m 37 #[.val (.ref a), .val (.ref t), .val .null, .val (.double (0 : UInt64)), .second, .val (.ref b), .val .null, .val (.ref li), .val (.ref mp)] []))
  refine own_st (fun u_ k_ => XS.aloadN X62.here hx rfl (hb hby own_d_prog_21_1_37) rfl rfl k_) ?_
  show own_Go p e below _ (T62.setTop (mkF m 38 #[.val (.ref a), .val (.ref t), .val .null, .val (.double (0 : UInt64)), .second, .val (.ref b), .val .null, .val (.ref li), .val (.ref mp)] [(.ref a)]))
  refine own_st (fun u_ k_ => XS.aload X62.here hx rfl (hb hby own_d_prog_21_1_38) rfl rfl k_) ?_
  show own_Go p e below _ (T62.setTop (mkF m 40 #[.val (.ref a), .val (.ref t), .val .null, .val (.double (0 : UInt64)), .second, .val (.ref b), .val .null, .val (.ref li), .val (.ref mp)] [(.ref mp), (.ref a)]))
  have F64 : Exa Z h62 a "com/example/tasdik/tasdik/core/cbor/CborValue" := (Exa.wr W62 F60)
  have F65 : Fld Z h62 a "com/example/tasdik/tasdik/core/cbor/CborValue" "entries" "Ljava/util/Map;" .null := (Fld.other W62 (Fld.other W58 (Fld.other W54 (Fld.other W50 (Fld.other W46 (Fld.other W42 F6 (Or.inr (slot_ne (Or.inr (hw _ (List.mem_of_getElem? (i := 44) rfl))) (Or.inr (hw _ (List.mem_of_getElem? (i := 32) rfl))) own_lm_102 (t := (.object "java/util/Map")) (t' := (.object "com/example/tasdik/tasdik/core/cbor/CborValue$Type")) own_lm_103 own_lm_63))) (Or.inr (slot_ne (Or.inr (hw _ (List.mem_of_getElem? (i := 44) rfl))) (Or.inr (hw _ (List.mem_of_getElem? (i := 34) rfl))) own_lm_104 (t := (.object "java/util/Map")) (t' := (.object "java/math/BigInteger")) own_lm_103 own_lm_68))) (Or.inr (slot_ne (Or.inr (hw _ (List.mem_of_getElem? (i := 44) rfl))) (Or.inr (hw _ (List.mem_of_getElem? (i := 36) rfl))) own_lm_105 (t := (.object "java/util/Map")) (t' := .double) own_lm_103 own_lm_73))) (Or.inr (slot_ne (Or.inr (hw _ (List.mem_of_getElem? (i := 44) rfl))) (Or.inr (hw _ (List.mem_of_getElem? (i := 38) rfl))) own_lm_106 (t := (.object "java/util/Map")) (t' := (.array .byte)) own_lm_103 own_lm_79))) (Or.inr (slot_ne (Or.inr (hw _ (List.mem_of_getElem? (i := 44) rfl))) (Or.inr (hw _ (List.mem_of_getElem? (i := 40) rfl))) own_lm_107 (t := (.object "java/util/Map")) (t' := (.object "java/lang/String")) own_lm_103 own_lm_86))) (Or.inr (slot_ne (Or.inr (hw _ (List.mem_of_getElem? (i := 44) rfl))) (Or.inr (hw _ (List.mem_of_getElem? (i := 42) rfl))) own_lm_108 (t := (.object "java/util/Map")) (t' := (.object "java/util/List")) own_lm_103 own_lm_94)))
  obtain ⟨T66, h66, X66, e66, W66, st66⟩ := putF X62 hx hZ hown (host := "") (Or.inl (hw _ (List.mem_of_getElem? (i := 43) rfl))) Via.refl e62 F65 F64 (Or.inr ⟨(hw _ (List.mem_of_getElem? (i := 44) rfl)), rfl, hnm⟩) (hw _ (List.mem_of_getElem? (i := 10) rfl)) (ty := (.object "java/util/Map")) own_lm_103 rfl rfl (g := (mkF m 40 #[.val (.ref a), .val (.ref t), .val .null, .val (.double (0 : UInt64)), .second, .val (.ref b), .val .null, .val (.ref li), .val (.ref mp)] [(.ref mp), (.ref a)])) rfl rfl (hb hby own_d_prog_21_1_40)
  have N66 := Fr.snoc X66 N62 ga
  have F67 : Fld Z h66 a "com/example/tasdik/tasdik/core/cbor/CborValue" "entries" "Ljava/util/Map;" (.ref mp) := Fld.same W66 F65
  refine own_st (fun u_ k_ => st66 u_ k_) ?_
  show own_Go p e below _ (T66.setTop (mkF m 43 #[.val (.ref a), .val (.ref t), .val .null, .val (.double (0 : UInt64)), .second, .val (.ref b), .val .null, .val (.ref li), .val (.ref mp)] []))
  have K68 : Keep h0 h42 [a] := (Keep.refl h0 [a]).wr W42 (Or.inl (List.mem_of_getElem? (i := 0) rfl))
  have K69 : Keep h0 h46 [a] := K68.wr W46 (Or.inl (List.mem_of_getElem? (i := 0) rfl))
  have K70 : Keep h0 h50 [a] := K69.wr W50 (Or.inl (List.mem_of_getElem? (i := 0) rfl))
  have K71 : Keep h0 h54 [a] := K70.wr W54 (Or.inl (List.mem_of_getElem? (i := 0) rfl))
  have K72 : Keep h0 h58 [a] := K71.wr W58 (Or.inl (List.mem_of_getElem? (i := 0) rfl))
  have K73 : Keep h0 h62 [a] := K72.wr W62 (Or.inl (List.mem_of_getElem? (i := 0) rfl))
  have K74 : Keep h0 h66 [a] := K73.wr W66 (Or.inl (List.mem_of_getElem? (i := 0) rfl))
  have F75 : Exa Z h66 a "com/example/tasdik/tasdik/core/cbor/CborValue" := (Exa.wr W66 F64)
  have F76 : Fld Z h66 a "com/example/tasdik/tasdik/core/cbor/CborValue" "type" "Lcom/example/tasdik/tasdik/core/cbor/CborValue$Type;" (.ref t) := (Fld.other W66 (Fld.other W62 (Fld.other W58 (Fld.other W54 (Fld.other W50 (Fld.other W46 F43 (Or.inr (slot_ne (Or.inr (hw _ (List.mem_of_getElem? (i := 32) rfl))) (Or.inr (hw _ (List.mem_of_getElem? (i := 34) rfl))) own_lm_110 (t := (.object "com/example/tasdik/tasdik/core/cbor/CborValue$Type")) (t' := (.object "java/math/BigInteger")) own_lm_63 own_lm_68))) (Or.inr (slot_ne (Or.inr (hw _ (List.mem_of_getElem? (i := 32) rfl))) (Or.inr (hw _ (List.mem_of_getElem? (i := 36) rfl))) own_lm_111 (t := (.object "com/example/tasdik/tasdik/core/cbor/CborValue$Type")) (t' := .double) own_lm_63 own_lm_73))) (Or.inr (slot_ne (Or.inr (hw _ (List.mem_of_getElem? (i := 32) rfl))) (Or.inr (hw _ (List.mem_of_getElem? (i := 38) rfl))) own_lm_112 (t := (.object "com/example/tasdik/tasdik/core/cbor/CborValue$Type")) (t' := (.array .byte)) own_lm_63 own_lm_79))) (Or.inr (slot_ne (Or.inr (hw _ (List.mem_of_getElem? (i := 32) rfl))) (Or.inr (hw _ (List.mem_of_getElem? (i := 40) rfl))) own_lm_113 (t := (.object "com/example/tasdik/tasdik/core/cbor/CborValue$Type")) (t' := (.object "java/lang/String")) own_lm_63 own_lm_86))) (Or.inr (slot_ne (Or.inr (hw _ (List.mem_of_getElem? (i := 32) rfl))) (Or.inr (hw _ (List.mem_of_getElem? (i := 42) rfl))) own_lm_114 (t := (.object "com/example/tasdik/tasdik/core/cbor/CborValue$Type")) (t' := (.object "java/util/List")) own_lm_63 own_lm_94))) (Or.inr (slot_ne (Or.inr (hw _ (List.mem_of_getElem? (i := 32) rfl))) (Or.inr (hw _ (List.mem_of_getElem? (i := 44) rfl))) own_lm_115 (t := (.object "com/example/tasdik/tasdik/core/cbor/CborValue$Type")) (t' := (.object "java/util/Map")) own_lm_63 own_lm_103)))
  have F77 : Fld Z h66 a "com/example/tasdik/tasdik/core/cbor/CborValue" "bytes" "[B" (.ref b) := (Fld.other W66 (Fld.other W62 (Fld.other W58 F55 (Or.inr (slot_ne (Or.inr (hw _ (List.mem_of_getElem? (i := 38) rfl))) (Or.inr (hw _ (List.mem_of_getElem? (i := 40) rfl))) own_lm_116 (t := (.array .byte)) (t' := (.object "java/lang/String")) own_lm_79 own_lm_86))) (Or.inr (slot_ne (Or.inr (hw _ (List.mem_of_getElem? (i := 38) rfl))) (Or.inr (hw _ (List.mem_of_getElem? (i := 42) rfl))) own_lm_117 (t := (.array .byte)) (t' := (.object "java/util/List")) own_lm_79 own_lm_94))) (Or.inr (slot_ne (Or.inr (hw _ (List.mem_of_getElem? (i := 38) rfl))) (Or.inr (hw _ (List.mem_of_getElem? (i := 44) rfl))) own_lm_118 (t := (.array .byte)) (t' := (.object "java/util/Map")) own_lm_79 own_lm_103)))
  exact own_retV X66 hx hlk hret (hb hby own_d_prog_21_1_43) (by decide) (by decide) (show QrmI Z w0 wl wp mr a t b li mp h0 n0 none T66.heap _ from (by rw [e66]; exact ⟨rfl, N66, K74, F75, F76, F77⟩))
theorem own_d_prog_21_4_0 : decode prog_21_method_4_code 0 = .ok (.new 8, 3) := by decide +kernel
theorem own_d_prog_21_4_3 : decode prog_21_method_4_code 3 = .ok (.dup, 1) := by decide +kernel
theorem own_d_prog_21_4_4 : decode prog_21_method_4_code 4 = .ok (.getstatic 62, 3) := by decide +kernel
theorem own_d_prog_21_4_7 : decode prog_21_method_4_code 7 = .ok (.aconst_null, 1) := by decide +kernel
theorem own_d_prog_21_4_8 : decode prog_21_method_4_code 8 = .ok (.dconst 0, 1) := by decide +kernel
theorem own_d_prog_21_4_9 : decode prog_21_method_4_code 9 = .ok (.aload_n 0, 1) := by decide +kernel
theorem own_d_prog_21_4_10 : decode prog_21_method_4_code 10 = .ok (.aconst_null, 1) := by decide +kernel
theorem own_d_prog_21_4_11 : decode prog_21_method_4_code 11 = .ok (.invokestatic 48, 3) := by decide +kernel
theorem own_lm_128 : ("java/util/List" : String) ≠ "java/lang/invoke/MethodHandle" ∧ ("java/util/List" : String) ≠ "java/lang/invoke/VarHandle" := by decide +kernel
theorem own_pd_129 : parseMethodDescriptor "()Ljava/util/List;" = some ⟨[], some (.object "java/util/List")⟩ := by decide +kernel
theorem own_d_prog_21_4_14 : decode prog_21_method_4_code 14 = .ok (.invokestatic 54, 3) := by decide +kernel
theorem own_lm_131 : ("java/util/Map" : String) ≠ "java/lang/invoke/MethodHandle" ∧ ("java/util/Map" : String) ≠ "java/lang/invoke/VarHandle" := by decide +kernel
theorem own_pd_132 : parseMethodDescriptor "()Ljava/util/Map;" = some ⟨[], some (.object "java/util/Map")⟩ := by decide +kernel
theorem own_d_prog_21_4_17 : decode prog_21_method_4_code 17 = .ok (.invokespecial 59, 3) := by decide +kernel
theorem own_lm_134 : ("com/example/tasdik/tasdik/core/cbor/CborValue" : String) ≠ "java/lang/invoke/MethodHandle" ∧ ("com/example/tasdik/tasdik/core/cbor/CborValue" : String) ≠ "java/lang/invoke/VarHandle" := by decide +kernel
theorem own_pd_135 : parseMethodDescriptor "(Lcom/example/tasdik/tasdik/core/cbor/CborValue$Type;Ljava/math/BigInteger;D[BLjava/lang/String;Ljava/util/List;Ljava/util/Map;)V" = some ⟨[(.object "com/example/tasdik/tasdik/core/cbor/CborValue$Type"), (.object "java/math/BigInteger"), .double, (.array .byte), (.object "java/lang/String"), (.object "java/util/List"), (.object "java/util/Map")], none⟩ := by decide +kernel
theorem own_d_prog_21_4_20 : decode prog_21_method_4_code 20 = .ok (.areturn, 1) := by decide +kernel
theorem own_ef_rmB (m : MethodId) (b : Addr)  : entryFrame m #[(.ref b)] 1 = mkF m 0 #[.val (.ref b)] [] := by first | (simp [entryFrame, mkF, argsToLocals, Value.category, maxLocals]; done) | rfl
def QrmB (Z : State) (w0 : Addr) (wl : Addr) (wp : Addr) (mr : Addr) (b : Addr) (h0 : Heap) (n0 : Nat) (v : Option Value) (h : Heap) (L : List Loc) : Prop := ∃ r : Addr, v = some (.ref r) ∧ Fr n0 L ∧ Keep h0 h [] ∧ h0.size ≤ r ∧ Exa Z h r "com/example/tasdik/tasdik/core/cbor/CborValue" ∧ Fld Z h r "com/example/tasdik/tasdik/core/cbor/CborValue" "type" "Lcom/example/tasdik/tasdik/core/cbor/CborValue$Type;" (.ref w0) ∧ Fld Z h r "com/example/tasdik/tasdik/core/cbor/CborValue" "bytes" "[B" (.ref b)
set_option maxRecDepth 65536 in
set_option maxHeartbeats 40000000 in
theorem rmB (l : Launch) (Z : State) (a0 : Array Value) (hw : ∀ d ∈ tables_1, d.before a0 Z = true) (ws : List Jvm.Cond) (w0 : Addr) (wl : Addr) (wp : Addr) (mr : Addr) (hS : own_S Z w0 wl wp mr) (b : Addr) (h0 : Heap) (n0 : Nat) (O0 : Old Z n0 h0)  :
    own_Met l (⟨"com/example/tasdik/tasdik/core/cbor/CborValue", "byteString", "([B)Lcom/example/tasdik/tasdik/core/cbor/CborValue;"⟩ : MethodName) prog_21_method_4_code 1 (some (.object "com/example/tasdik/tasdik/core/cbor/CborValue")) ws ({ frames := 2, cells := 1, slots := 7, locals := 33 } : Room) Z h0 #[(.ref b)] (QrmB Z w0 wl wp mr b h0 n0) := by
  refine own_body (plainFor_of_name own_pn_119) ?_
  intro p e s m below meth c s₁ hx hby hml hown hnm hret hlk hZ e0 X0
  have N0 := Fr.nil n0
  refine own_st (fun u_ k_ => castTop (own_ef_rmB m b) k_) ?_
  show own_Go p e below _ (s₁.setTop (mkF m 0 #[.val (.ref b)] []))
  obtain ⟨T78, h78, X78, e78, E78, A78, D78, U78, st78⟩ := newO X0 hx hZ hown (hw _ (List.mem_of_getElem? (i := 9) rfl)) (hw _ (List.mem_of_getElem? (i := 10) rfl)) (hw _ (List.mem_of_getElem? (i := 7) rfl)) e0 (g := (mkF m 0 #[.val (.ref b)] [])) rfl (hb hby own_d_prog_21_4_0) (by decide) (by decide)
  obtain ⟨b78, g78⟩ : ∃ z, z = h0.size := ⟨_, rfl⟩
  rw [← g78] at A78 D78 U78 st78
  have F78_type : Fld Z h78 b78 "com/example/tasdik/tasdik/core/cbor/CborValue" "type" "Lcom/example/tasdik/tasdik/core/cbor/CborValue$Type;" .null := D78 (Or.inr (hw _ (List.mem_of_getElem? (i := 32) rfl))) (ty := (.object "com/example/tasdik/tasdik/core/cbor/CborValue$Type")) own_lm_63
  have F78_number : Fld Z h78 b78 "com/example/tasdik/tasdik/core/cbor/CborValue" "number" "Ljava/math/BigInteger;" .null := D78 (Or.inr (hw _ (List.mem_of_getElem? (i := 34) rfl))) (ty := (.object "java/math/BigInteger")) own_lm_68
  have F78_floatValue : Fld Z h78 b78 "com/example/tasdik/tasdik/core/cbor/CborValue" "floatValue" "D" (.double (0 : UInt64)) := D78 (Or.inr (hw _ (List.mem_of_getElem? (i := 36) rfl))) (ty := .double) own_lm_73
  have F78_bytes : Fld Z h78 b78 "com/example/tasdik/tasdik/core/cbor/CborValue" "bytes" "[B" .null := D78 (Or.inr (hw _ (List.mem_of_getElem? (i := 38) rfl))) (ty := (.array .byte)) own_lm_79
  have F78_text : Fld Z h78 b78 "com/example/tasdik/tasdik/core/cbor/CborValue" "text" "Ljava/lang/String;" .null := D78 (Or.inr (hw _ (List.mem_of_getElem? (i := 40) rfl))) (ty := (.object "java/lang/String")) own_lm_86
  have F78_items : Fld Z h78 b78 "com/example/tasdik/tasdik/core/cbor/CborValue" "items" "Ljava/util/List;" .null := D78 (Or.inr (hw _ (List.mem_of_getElem? (i := 42) rfl))) (ty := (.object "java/util/List")) own_lm_94
  have F78_entries : Fld Z h78 b78 "com/example/tasdik/tasdik/core/cbor/CborValue" "entries" "Ljava/util/Map;" .null := D78 (Or.inr (hw _ (List.mem_of_getElem? (i := 44) rfl))) (ty := (.object "java/util/Map")) own_lm_103
  refine own_st (fun u_ k_ => st78 u_ k_) ?_
  show own_Go p e below _ (T78.setTop (mkF m 3 #[.val (.ref b)] [(.ref b78)]))
  refine own_st (fun u_ k_ => XS.dup X78.here hx rfl (hb hby own_d_prog_21_4_3) rfl rfl k_) ?_
  show own_Go p e below _ (T78.setTop (mkF m 4 #[.val (.ref b)] [(.ref b78), (.ref b78)]))
  have O79 : Old Z n0 h78 := O0.ext E78
  have F80 : Sta Z h78 "com/example/tasdik/tasdik/core/cbor/CborValue$Type" "BYTE_STRING" "Lcom/example/tasdik/tasdik/core/cbor/CborValue$Type;" (.ref w0) := Sta.ext O79.2 hS.1
  obtain ⟨T81, X81, e81, st81⟩ := getS2 X78 hx hZ hown (host := "") (Or.inl (hw _ (List.mem_of_getElem? (i := 11) rfl))) Via.refl e78 F80 (g := (mkF m 4 #[.val (.ref b)] [(.ref b78), (.ref b78)])) rfl (hb hby own_d_prog_21_4_4)
  refine own_st (fun u_ k_ => st81 u_ k_) ?_
  show own_Go p e below _ (T81.setTop (mkF m 7 #[.val (.ref b)] [(.ref w0), (.ref b78), (.ref b78)]))
  refine own_st (fun u_ k_ => XS.aconstNull X81.here hx rfl (hb hby own_d_prog_21_4_7) k_) ?_
  show own_Go p e below _ (T81.setTop (mkF m 8 #[.val (.ref b)] [.null, (.ref w0), (.ref b78), (.ref b78)]))
  refine own_st (fun u_ k_ => XS.dconst0 (v := (0 : UInt64)) X81.here hx rfl (hb hby own_d_prog_21_4_8) (by decide +kernel) k_) ?_
  show own_Go p e below _ (T81.setTop (mkF m 9 #[.val (.ref b)] [(.double (0 : UInt64)), .null, (.ref w0), (.ref b78), (.ref b78)]))
  refine own_st (fun u_ k_ => XS.aloadN X81.here hx rfl (hb hby own_d_prog_21_4_9) rfl rfl k_) ?_
  show own_Go p e below _ (T81.setTop (mkF m 10 #[.val (.ref b)] [(.ref b), (.double (0 : UInt64)), .null, (.ref w0), (.ref b78), (.ref b78)]))
  refine own_st (fun u_ k_ => XS.aconstNull X81.here hx rfl (hb hby own_d_prog_21_4_10) k_) ?_
  show own_Go p e below _ (T81.setTop (mkF m 11 #[.val (.ref b)] [.null, (.ref b), (.double (0 : UInt64)), .null, (.ref w0), (.ref b78), (.ref b78)]))
  obtain ⟨T82, v82, L82, X82, hQ82, st82⟩ := own_callS X81 hx hZ (y := (⟨"java/util/List", "of", "()Ljava/util/List;"⟩ : MethodName)) hown (hw _ (List.mem_of_getElem? (i := 14) rfl)) (hw _ (List.mem_of_getElem? (i := 15) rfl)) (hw _ (List.mem_of_getElem? (i := 16) rfl)) (hw _ (List.mem_of_getElem? (i := 17) rfl)) own_lm_128 (rmL l Z a0 hw [] w0 wl wp mr hS  h78 n0 O79 ) e81 own_pd_129 (argsL := []) (rest := [.null, (.ref b), (.double (0 : UInt64)), .null, (.ref w0), (.ref b78), (.ref b78)]) rfl rfl (g := (mkF m 11 #[.val (.ref b)] [.null, (.ref b), (.double (0 : UInt64)), .null, (.ref w0), (.ref b78), (.ref b78)])) rfl (by rw [hml]; rfl) rfl (hb hby own_d_prog_21_4_11) (W := 8) rfl (by decide) (by decide) (by decide) (by decide)
  obtain ⟨rfl, M82, e82⟩ := hQ82
  have N82 := Fr.app N0 M82
  refine own_st (fun u_ k_ => st82 u_ k_) ?_
  show own_Go p e below _ (T82.setTop (mkF m 14 #[.val (.ref b)] [(.ref wl), .null, (.ref b), (.double (0 : UInt64)), .null, (.ref w0), (.ref b78), (.ref b78)]))
  obtain ⟨T83, v83, L83, X83, hQ83, st83⟩ := own_callS X82 hx hZ (y := (⟨"java/util/Map", "of", "()Ljava/util/Map;"⟩ : MethodName)) hown (hw _ (List.mem_of_getElem? (i := 20) rfl)) (hw _ (List.mem_of_getElem? (i := 21) rfl)) (hw _ (List.mem_of_getElem? (i := 22) rfl)) (hw _ (List.mem_of_getElem? (i := 23) rfl)) own_lm_131 (rmP l Z a0 hw [] w0 wl wp mr hS  h78 n0 O79 ) e82 own_pd_132 (argsL := []) (rest := [(.ref wl), .null, (.ref b), (.double (0 : UInt64)), .null, (.ref w0), (.ref b78), (.ref b78)]) rfl rfl (g := (mkF m 14 #[.val (.ref b)] [(.ref wl), .null, (.ref b), (.double (0 : UInt64)), .null, (.ref w0), (.ref b78), (.ref b78)])) rfl (by rw [hml]; rfl) rfl (hb hby own_d_prog_21_4_14) (W := 9) rfl (by decide) (by decide) (by decide) (by decide)
  obtain ⟨rfl, M83, e83⟩ := hQ83
  have N83 := Fr.app N82 M83
  refine own_st (fun u_ k_ => st83 u_ k_) ?_
  show own_Go p e below _ (T83.setTop (mkF m 17 #[.val (.ref b)] [(.ref wp), (.ref wl), .null, (.ref b), (.double (0 : UInt64)), .null, (.ref w0), (.ref b78), (.ref b78)]))
  have g84 : n0 ≤ b78 := Nat.le_trans (own_nl O0) (Nat.le_of_eq g78.symm)
  obtain ⟨T85, v85, L85, X85, hQ85, st85⟩ := own_callN X83 hx hZ (y := (⟨"com/example/tasdik/tasdik/core/cbor/CborValue", "<init>", "(Lcom/example/tasdik/tasdik/core/cbor/CborValue$Type;Ljava/math/BigInteger;D[BLjava/lang/String;Ljava/util/List;Ljava/util/Map;)V"⟩ : MethodName)) rfl hown (hw _ (List.mem_of_getElem? (i := 25) rfl)) (hw _ (List.mem_of_getElem? (i := 26) rfl)) (hw _ (List.mem_of_getElem? (i := 7) rfl)) (hw _ (List.mem_of_getElem? (i := 27) rfl)) own_lm_134 (rmI l Z a0 hw [] w0 wl wp mr hS b78 w0 b wl wp h78 n0 O79 A78 g84 F78_type F78_number F78_floatValue F78_bytes F78_text F78_items F78_entries) e83 own_pd_135 (a := b78) (argsL := [(.ref w0), .null, (.double (0 : UInt64)), (.ref b), .null, (.ref wl), (.ref wp)]) (rest := [(.ref b78)]) rfl rfl (g := (mkF m 17 #[.val (.ref b)] [(.ref wp), (.ref wl), .null, (.ref b), (.double (0 : UInt64)), .null, (.ref w0), (.ref b78), (.ref b78)])) rfl (by rw [hml]; rfl) rfl (hb hby own_d_prog_21_4_17) (W := 1) rfl (by decide) (by decide) (by decide) (by decide)
  obtain ⟨rfl, M85, K85, F86, F87, F88⟩ := hQ85
  have N85 := Fr.app N83 M85
  refine own_st (fun u_ k_ => st85 u_ k_) ?_
  show own_Go p e below _ (T85.setTop (mkF m 20 #[.val (.ref b)] [(.ref b78)]))
  have K89 : Keep h0 h78 [] := (Keep.refl h0 []).ext E78
  have z91 : h0.size ≤ b78 := Nat.le_trans (Nat.le_refl _) (Nat.le_of_eq g78.symm)
  have K90 : Keep h0 T85.heap [] := K89.trans K85 (allS (Or.inr z91) all0)
  exact own_retX X85 hx hlk hret rfl (Or.inr (Or.inr (Or.inr (Or.inr ⟨rfl, rfl, rfl⟩)))) (hb hby own_d_prog_21_4_20) (by decide) (by decide) (show QrmB Z w0 wl wp mr b h0 n0 (some (.ref b78)) T85.heap _ from (by exact ⟨b78, rfl, N85, K90, z91, F86, F87, F88⟩))
theorem own_d_prog_21_11_0 : decode prog_21_method_11_code 0 = .ok (.aload_n 0, 1) := by decide +kernel
theorem own_d_prog_21_11_1 : decode prog_21_method_11_code 1 = .ok (.getfield 7, 3) := by decide +kernel
theorem own_d_prog_21_11_4 : decode prog_21_method_11_code 4 = .ok (.areturn, 1) := by decide +kernel
theorem own_ef_rmT (m : MethodId) (a : Addr)  : entryFrame m #[(.ref a)] 1 = mkF m 0 #[.val (.ref a)] [] := by first | (simp [entryFrame, mkF, argsToLocals, Value.category, maxLocals]; done) | rfl
def QrmT (Z : State) (w0 : Addr) (wl : Addr) (wp : Addr) (mr : Addr) (a : Addr) (t : Addr) (h0 : Heap) (n0 : Nat) (v : Option Value) (h : Heap) (L : List Loc) : Prop := v = some (.ref t) ∧ Fr n0 L ∧ h = h0
set_option maxRecDepth 65536 in
set_option maxHeartbeats 40000000 in
theorem rmT (l : Launch) (Z : State) (a0 : Array Value) (hw : ∀ d ∈ tables_1, d.before a0 Z = true) (ws : List Jvm.Cond) (w0 : Addr) (wl : Addr) (wp : Addr) (mr : Addr) (hS : own_S Z w0 wl wp mr) (a : Addr) (t : Addr) (h0 : Heap) (n0 : Nat) (O0 : Old Z n0 h0) (F : Fld Z h0 a "com/example/tasdik/tasdik/core/cbor/CborValue" "type" "Lcom/example/tasdik/tasdik/core/cbor/CborValue$Type;" (.ref t)) :
    own_Met l (⟨"com/example/tasdik/tasdik/core/cbor/CborValue", "type", "()Lcom/example/tasdik/tasdik/core/cbor/CborValue$Type;"⟩ : MethodName) prog_21_method_11_code 1 (some (.object "com/example/tasdik/tasdik/core/cbor/CborValue$Type")) ws ({ frames := 0, cells := 0, slots := 0, locals := 0 } : Room) Z h0 #[(.ref a)] (QrmT Z w0 wl wp mr a t h0 n0) := by
  refine own_body (plainFor_of_name own_pn_119) ?_
  intro p e s m below meth c s₁ hx hby hml hown hnm hret hlk hZ e0 X0
  have N0 := Fr.nil n0
  refine own_st (fun u_ k_ => castTop (own_ef_rmT m a) k_) ?_
  show own_Go p e below _ (s₁.setTop (mkF m 0 #[.val (.ref a)] []))
  refine own_st (fun u_ k_ => XS.aloadN X0.here hx rfl (hb hby own_d_prog_21_11_0) rfl rfl k_) ?_
  show own_Go p e below _ (s₁.setTop (mkF m 1 #[.val (.ref a)] [(.ref a)]))
  obtain ⟨T92, X92, e92, st92⟩ := getF X0 hx hZ hown (host := "") (Or.inl (hw _ (List.mem_of_getElem? (i := 31) rfl))) Via.refl e0 F (g := (mkF m 1 #[.val (.ref a)] [(.ref a)])) rfl rfl (hb hby own_d_prog_21_11_1)
  refine own_st (fun u_ k_ => st92 u_ k_) ?_
  show own_Go p e below _ (T92.setTop (mkF m 4 #[.val (.ref a)] [(.ref t)]))
  exact own_retX X92 hx hlk hret rfl (Or.inr (Or.inr (Or.inr (Or.inr ⟨rfl, rfl, rfl⟩)))) (hb hby own_d_prog_21_11_4) (by decide) (by decide) (show QrmT Z w0 wl wp mr a t h0 n0 (some (.ref t)) T92.heap _ from (by rw [e92]; exact ⟨rfl, N0, rfl⟩))
theorem own_d_prog_21_21_0 : decode prog_21_method_21_code 0 = .ok (.aload_n 0, 1) := by decide +kernel
theorem own_d_prog_21_21_1 : decode prog_21_method_21_code 1 = .ok (.getfield 7, 3) := by decide +kernel
theorem own_d_prog_21_21_4 : decode prog_21_method_21_code 4 = .ok (.aload_n 1, 1) := by decide +kernel
theorem own_d_prog_21_21_5 : decode prog_21_method_21_code 5 = .ok (.if_acmp .eq 27, 3) := by decide +kernel
theorem own_d_prog_21_21_32 : decode prog_21_method_21_code 32 = .ok (.return_, 1) := by decide +kernel
theorem own_ef_rmX (m : MethodId) (a : Addr) (t : Addr)  : entryFrame m #[(.ref a), (.ref t)] 2 = mkF m 0 #[.val (.ref a), .val (.ref t)] [] := by first | (simp [entryFrame, mkF, argsToLocals, Value.category, maxLocals]; done) | rfl
def QrmX (Z : State) (w0 : Addr) (wl : Addr) (wp : Addr) (mr : Addr) (a : Addr) (t : Addr) (h0 : Heap) (n0 : Nat) (v : Option Value) (h : Heap) (L : List Loc) : Prop := v = none ∧ Fr n0 L ∧ h = h0
set_option maxRecDepth 65536 in
set_option maxHeartbeats 40000000 in
theorem rmX (l : Launch) (Z : State) (a0 : Array Value) (hw : ∀ d ∈ tables_1, d.before a0 Z = true) (ws : List Jvm.Cond) (w0 : Addr) (wl : Addr) (wp : Addr) (mr : Addr) (hS : own_S Z w0 wl wp mr) (a : Addr) (t : Addr) (h0 : Heap) (n0 : Nat) (O0 : Old Z n0 h0) (F : Fld Z h0 a "com/example/tasdik/tasdik/core/cbor/CborValue" "type" "Lcom/example/tasdik/tasdik/core/cbor/CborValue$Type;" (.ref t)) :
    own_Met l (⟨"com/example/tasdik/tasdik/core/cbor/CborValue", "expect", "(Lcom/example/tasdik/tasdik/core/cbor/CborValue$Type;)V"⟩ : MethodName) prog_21_method_21_code 2 none ws ({ frames := 0, cells := 0, slots := 0, locals := 0 } : Room) Z h0 #[(.ref a), (.ref t)] (QrmX Z w0 wl wp mr a t h0 n0) := by
  refine own_body (plainFor_of_name own_pn_119) ?_
  intro p e s m below meth c s₁ hx hby hml hown hnm hret hlk hZ e0 X0
  have N0 := Fr.nil n0
  refine own_st (fun u_ k_ => castTop (own_ef_rmX m a t) k_) ?_
  show own_Go p e below _ (s₁.setTop (mkF m 0 #[.val (.ref a), .val (.ref t)] []))
  refine own_st (fun u_ k_ => XS.aloadN X0.here hx rfl (hb hby own_d_prog_21_21_0) rfl rfl k_) ?_
  show own_Go p e below _ (s₁.setTop (mkF m 1 #[.val (.ref a), .val (.ref t)] [(.ref a)]))
  obtain ⟨T93, X93, e93, st93⟩ := getF X0 hx hZ hown (host := "") (Or.inl (hw _ (List.mem_of_getElem? (i := 31) rfl))) Via.refl e0 F (g := (mkF m 1 #[.val (.ref a), .val (.ref t)] [(.ref a)])) rfl rfl (hb hby own_d_prog_21_21_1)
  refine own_st (fun u_ k_ => st93 u_ k_) ?_
  show own_Go p e below _ (T93.setTop (mkF m 4 #[.val (.ref a), .val (.ref t)] [(.ref t)]))
  refine own_st (fun u_ k_ => XS.aloadN X93.here hx rfl (hb hby own_d_prog_21_21_4) rfl rfl k_) ?_
  show own_Go p e below _ (T93.setTop (mkF m 5 #[.val (.ref a), .val (.ref t)] [(.ref t), (.ref t)]))
  refine own_st (fun u_ k_ => XT.acmpYes X93.here hx rfl (pc0 := 5) (pc' := 32) rfl (hb hby own_d_prog_21_21_5) rfl rfl rfl (XT.aa_eq_t rfl) (by decide) (by decide) k_) ?_
  show own_Go p e below _ (T93.setTop (mkF m 32 #[.val (.ref a), .val (.ref t)] []))
  exact own_retV X93 hx hlk hret (hb hby own_d_prog_21_21_32) (by decide) (by decide) (show QrmX Z w0 wl wp mr a t h0 n0 none T93.heap _ from (by rw [e93]; exact ⟨rfl, N0, rfl⟩))
theorem own_d_prog_21_12_0 : decode prog_21_method_12_code 0 = .ok (.aload_n 0, 1) := by decide +kernel
theorem own_d_prog_21_12_1 : decode prog_21_method_12_code 1 = .ok (.getstatic 62, 3) := by decide +kernel
theorem own_d_prog_21_12_4 : decode prog_21_method_12_code 4 = .ok (.invokevirtual 114, 3) := by decide +kernel
theorem own_pd_148 : parseMethodDescriptor "(Lcom/example/tasdik/tasdik/core/cbor/CborValue$Type;)V" = some ⟨[(.object "com/example/tasdik/tasdik/core/cbor/CborValue$Type")], none⟩ := by decide +kernel
theorem own_d_prog_21_12_7 : decode prog_21_method_12_code 7 = .ok (.aload_n 0, 1) := by decide +kernel
theorem own_d_prog_21_12_8 : decode prog_21_method_12_code 8 = .ok (.getfield 21, 3) := by decide +kernel
theorem own_d_prog_21_12_11 : decode prog_21_method_12_code 11 = .ok (.invokevirtual 118, 3) := by decide +kernel
theorem own_d_prog_21_12_14 : decode prog_21_method_12_code 14 = .ok (.checkcast 119, 3) := by decide +kernel
theorem own_d_prog_21_12_17 : decode prog_21_method_12_code 17 = .ok (.areturn, 1) := by decide +kernel
theorem own_ef_rmY0 (m : MethodId) (a : Addr)  : entryFrame m #[(.ref a)] 1 = mkF m 0 #[.val (.ref a)] [] := by first | (simp [entryFrame, mkF, argsToLocals, Value.category, maxLocals]; done) | rfl
def QrmY0 (Z : State) (w0 : Addr) (wl : Addr) (wp : Addr) (mr : Addr) (a : Addr) (b : Addr) (kb : ClassId) (h0 : Heap) (n0 : Nat) (v : Option Value) (h : Heap) (L : List Loc) : Prop := ∃ r : Addr, ∃ kr : ClassId, v = some (.ref r) ∧ Fr n0 L ∧ Keep h0 h [] ∧ h0.size ≤ r ∧ Arv Z h r kr .byte (0 : Int32) [] (.int (0 : Int32)) ∧ Exa Z h r "[B"
set_option maxRecDepth 65536 in
set_option maxHeartbeats 40000000 in
theorem rmY0 (l : Launch) (Z : State) (a0 : Array Value) (hw : ∀ d ∈ tables_1, d.before a0 Z = true) (ws : List Jvm.Cond) (w0 : Addr) (wl : Addr) (wp : Addr) (mr : Addr) (hS : own_S Z w0 wl wp mr) (a : Addr) (b : Addr) (kb : ClassId) (h0 : Heap) (n0 : Nat) (O0 : Old Z n0 h0) (Ea : Exa Z h0 a "com/example/tasdik/tasdik/core/cbor/CborValue") (F : Fld Z h0 a "com/example/tasdik/tasdik/core/cbor/CborValue" "type" "Lcom/example/tasdik/tasdik/core/cbor/CborValue$Type;" (.ref w0)) (G : Fld Z h0 a "com/example/tasdik/tasdik/core/cbor/CborValue" "bytes" "[B" (.ref b)) (V : Arv Z h0 b kb .byte (0 : Int32) [] (.int (0 : Int32))) (Eb : Exa Z h0 b "[B") :
    own_Met l (⟨"com/example/tasdik/tasdik/core/cbor/CborValue", "bytes", "()[B"⟩ : MethodName) prog_21_method_12_code 1 (some (.array .byte)) ws ({ frames := 1, cells := 1, slots := 0, locals := 14 } : Room) Z h0 #[(.ref a)] (QrmY0 Z w0 wl wp mr a b kb h0 n0) := by
  refine own_body (plainFor_of_name own_pn_119) ?_
  intro p e s m below meth c s₁ hx hby hml hown hnm hret hlk hZ e0 X0
  have N0 := Fr.nil n0
  refine own_st (fun u_ k_ => castTop (own_ef_rmY0 m a) k_) ?_
  show own_Go p e below _ (s₁.setTop (mkF m 0 #[.val (.ref a)] []))
  refine own_st (fun u_ k_ => XS.aloadN X0.here hx rfl (hb hby own_d_prog_21_12_0) rfl rfl k_) ?_
  show own_Go p e below _ (s₁.setTop (mkF m 1 #[.val (.ref a)] [(.ref a)]))
  have F94 : Sta Z h0 "com/example/tasdik/tasdik/core/cbor/CborValue$Type" "BYTE_STRING" "Lcom/example/tasdik/tasdik/core/cbor/CborValue$Type;" (.ref w0) := Sta.ext O0.2 hS.1
  obtain ⟨T95, X95, e95, st95⟩ := getS2 X0 hx hZ hown (host := "") (Or.inl (hw _ (List.mem_of_getElem? (i := 11) rfl))) Via.refl e0 F94 (g := (mkF m 1 #[.val (.ref a)] [(.ref a)])) rfl (hb hby own_d_prog_21_12_1)
  refine own_st (fun u_ k_ => st95 u_ k_) ?_
  show own_Go p e below _ (T95.setTop (mkF m 4 #[.val (.ref a)] [(.ref w0), (.ref a)]))
  obtain ⟨T96, v96, L96, X96, hQ96, st96⟩ := own_callP X95 hx hZ (y := (⟨"com/example/tasdik/tasdik/core/cbor/CborValue", "expect", "(Lcom/example/tasdik/tasdik/core/cbor/CborValue$Type;)V"⟩ : MethodName)) hown (hw _ (List.mem_of_getElem? (i := 56) rfl)) (hw _ (List.mem_of_getElem? (i := 57) rfl)) (own_selP hZ (hw _ (List.mem_of_getElem? (i := 10) rfl)) (hw _ (List.mem_of_getElem? (i := 58) rfl)) (hw _ (List.mem_of_getElem? (i := 57) rfl)) own_lm_134) (hw _ (List.mem_of_getElem? (i := 58) rfl)) (hw _ (List.mem_of_getElem? (i := 7) rfl)) (hw _ (List.mem_of_getElem? (i := 59) rfl)) own_lm_134 (rmX l Z a0 hw [] w0 wl wp mr hS a w0 h0 n0 O0 F) e95 Ea own_pd_148 (argsL := [(.ref w0)]) (rest := []) rfl rfl (g := (mkF m 4 #[.val (.ref a)] [(.ref w0), (.ref a)])) rfl (by rw [hml]; rfl) rfl (hb hby own_d_prog_21_12_4) (W := 0) rfl (by decide) (by decide) (by decide) (by decide)
  obtain ⟨rfl, M96, e96⟩ := hQ96
  have N96 := Fr.app N0 M96
  refine own_st (fun u_ k_ => st96 u_ k_) ?_
  show own_Go p e below _ (T96.setTop (mkF m 7 #[.val (.ref a)] []))
  refine own_st (fun u_ k_ => XS.aloadN X96.here hx rfl (hb hby own_d_prog_21_12_7) rfl rfl k_) ?_
  show own_Go p e below _ (T96.setTop (mkF m 8 #[.val (.ref a)] [(.ref a)]))
  obtain ⟨T97, X97, e97, st97⟩ := getF X96 hx hZ hown (host := "") (Or.inl (hw _ (List.mem_of_getElem? (i := 37) rfl))) Via.refl e96 G (g := (mkF m 8 #[.val (.ref a)] [(.ref a)])) rfl rfl (hb hby own_d_prog_21_12_8)
  refine own_st (fun u_ k_ => st97 u_ k_) ?_
  show own_Go p e below _ (T97.setTop (mkF m 11 #[.val (.ref a)] [(.ref b)]))
  obtain ⟨T98, h98, X98, e98, E98, A98, Y98, st98⟩ := cloneH X97 hx hZ hown (hw _ (List.mem_of_getElem? (i := 60) rfl)) (hw _ (List.mem_of_getElem? (i := 61) rfl)) (hw _ (List.mem_of_getElem? (i := 65) rfl)) (hw _ (List.mem_of_getElem? (i := 63) rfl)) (hw _ (List.mem_of_getElem? (i := 64) rfl)) (hw _ (List.mem_of_getElem? (i := 66) rfl)) e97 V.arh Eb (g := (mkF m 11 #[.val (.ref a)] [(.ref b)])) rfl (by rw [hml]; rfl) rfl (hb hby own_d_prog_21_12_11) (by decide) (W := 0) (cap := 0) (by show 2 * 0 + _ ≤ _; exact Nat.le_of_eq rfl) (by decide) (by decide) (by decide) (by decide)
  obtain ⟨b98, g98⟩ : ∃ z, z = h0.size := ⟨_, rfl⟩
  rw [← g98] at A98 Y98 st98
  have V98 : Arv Z h98 b98 kb .byte (0 : Int32) [] (.int (0 : Int32)) := A98
  refine own_st (fun u_ k_ => st98 u_ k_) ?_
  show own_Go p e below _ (T98.setTop (mkF m 14 #[.val (.ref a)] [(.ref b98)]))
  obtain ⟨T99, X99, e99, st99⟩ := castY X98 hx hZ hown (hw _ (List.mem_of_getElem? (i := 67) rfl)) e98 (Ins.self Y98) (g := (mkF m 14 #[.val (.ref a)] [(.ref b98)])) rfl rfl (hb hby own_d_prog_21_12_14)
  refine own_st (fun u_ k_ => st99 u_ k_) ?_
  show own_Go p e below _ (T99.setTop (mkF m 17 #[.val (.ref a)] [(.ref b98)]))
  have K100 : Keep h0 h98 [] := (Keep.refl h0 []).ext E98
  have z101 : h0.size ≤ b98 := Nat.le_trans (Nat.le_refl _) (Nat.le_of_eq g98.symm)
  exact own_retX X99 hx hlk hret rfl (Or.inr (Or.inr (Or.inr (Or.inr ⟨rfl, rfl, rfl⟩)))) (hb hby own_d_prog_21_12_17) (by decide) (by decide) (show QrmY0 Z w0 wl wp mr a b kb h0 n0 (some (.ref b98)) T99.heap _ from (by rw [e99]; exact ⟨b98, kb, rfl, N96, K100, z101, V98, Y98⟩))
theorem own_ef_rmY1 (m : MethodId) (a : Addr)  : entryFrame m #[(.ref a)] 1 = mkF m 0 #[.val (.ref a)] [] := by first | (simp [entryFrame, mkF, argsToLocals, Value.category, maxLocals]; done) | rfl
def QrmY1 (Z : State) (w0 : Addr) (wl : Addr) (wp : Addr) (mr : Addr) (a : Addr) (b : Addr) (kb : ClassId) (v0 : Int32) (h0 : Heap) (n0 : Nat) (v : Option Value) (h : Heap) (L : List Loc) : Prop := ∃ r : Addr, ∃ kr : ClassId, v = some (.ref r) ∧ Fr n0 L ∧ Keep h0 h [] ∧ h0.size ≤ r ∧ Arv Z h r kr .byte (1 : Int32) [(.int v0)] (.int (0 : Int32)) ∧ Exa Z h r "[B"
set_option maxRecDepth 65536 in
set_option maxHeartbeats 40000000 in
theorem rmY1 (l : Launch) (Z : State) (a0 : Array Value) (hw : ∀ d ∈ tables_1, d.before a0 Z = true) (ws : List Jvm.Cond) (w0 : Addr) (wl : Addr) (wp : Addr) (mr : Addr) (hS : own_S Z w0 wl wp mr) (a : Addr) (b : Addr) (kb : ClassId) (v0 : Int32) (h0 : Heap) (n0 : Nat) (O0 : Old Z n0 h0) (Ea : Exa Z h0 a "com/example/tasdik/tasdik/core/cbor/CborValue") (F : Fld Z h0 a "com/example/tasdik/tasdik/core/cbor/CborValue" "type" "Lcom/example/tasdik/tasdik/core/cbor/CborValue$Type;" (.ref w0)) (G : Fld Z h0 a "com/example/tasdik/tasdik/core/cbor/CborValue" "bytes" "[B" (.ref b)) (V : Arv Z h0 b kb .byte (1 : Int32) [(.int v0)] (.int (0 : Int32))) (Eb : Exa Z h0 b "[B") :
    own_Met l (⟨"com/example/tasdik/tasdik/core/cbor/CborValue", "bytes", "()[B"⟩ : MethodName) prog_21_method_12_code 1 (some (.array .byte)) ws ({ frames := 1, cells := 1, slots := 1, locals := 14 } : Room) Z h0 #[(.ref a)] (QrmY1 Z w0 wl wp mr a b kb v0 h0 n0) := by
  refine own_body (plainFor_of_name own_pn_119) ?_
  intro p e s m below meth c s₁ hx hby hml hown hnm hret hlk hZ e0 X0
  have N0 := Fr.nil n0
  refine own_st (fun u_ k_ => castTop (own_ef_rmY1 m a) k_) ?_
  show own_Go p e below _ (s₁.setTop (mkF m 0 #[.val (.ref a)] []))
  refine own_st (fun u_ k_ => XS.aloadN X0.here hx rfl (hb hby own_d_prog_21_12_0) rfl rfl k_) ?_
  show own_Go p e below _ (s₁.setTop (mkF m 1 #[.val (.ref a)] [(.ref a)]))
  have F102 : Sta Z h0 "com/example/tasdik/tasdik/core/cbor/CborValue$Type" "BYTE_STRING" "Lcom/example/tasdik/tasdik/core/cbor/CborValue$Type;" (.ref w0) := Sta.ext O0.2 hS.1
  obtain ⟨T103, X103, e103, st103⟩ := getS2 X0 hx hZ hown (host := "") (Or.inl (hw _ (List.mem_of_getElem? (i := 11) rfl))) Via.refl e0 F102 (g := (mkF m 1 #[.val (.ref a)] [(.ref a)])) rfl (hb hby own_d_prog_21_12_1)
  refine own_st (fun u_ k_ => st103 u_ k_) ?_
  show own_Go p e below _ (T103.setTop (mkF m 4 #[.val (.ref a)] [(.ref w0), (.ref a)]))
  obtain ⟨T104, v104, L104, X104, hQ104, st104⟩ := own_callP X103 hx hZ (y := (⟨"com/example/tasdik/tasdik/core/cbor/CborValue", "expect", "(Lcom/example/tasdik/tasdik/core/cbor/CborValue$Type;)V"⟩ : MethodName)) hown (hw _ (List.mem_of_getElem? (i := 56) rfl)) (hw _ (List.mem_of_getElem? (i := 57) rfl)) (own_selP hZ (hw _ (List.mem_of_getElem? (i := 10) rfl)) (hw _ (List.mem_of_getElem? (i := 58) rfl)) (hw _ (List.mem_of_getElem? (i := 57) rfl)) own_lm_134) (hw _ (List.mem_of_getElem? (i := 58) rfl)) (hw _ (List.mem_of_getElem? (i := 7) rfl)) (hw _ (List.mem_of_getElem? (i := 59) rfl)) own_lm_134 (rmX l Z a0 hw [] w0 wl wp mr hS a w0 h0 n0 O0 F) e103 Ea own_pd_148 (argsL := [(.ref w0)]) (rest := []) rfl rfl (g := (mkF m 4 #[.val (.ref a)] [(.ref w0), (.ref a)])) rfl (by rw [hml]; rfl) rfl (hb hby own_d_prog_21_12_4) (W := 0) rfl (by decide) (by decide) (by decide) (by decide)
  obtain ⟨rfl, M104, e104⟩ := hQ104
  have N104 := Fr.app N0 M104
  refine own_st (fun u_ k_ => st104 u_ k_) ?_
  show own_Go p e below _ (T104.setTop (mkF m 7 #[.val (.ref a)] []))
  refine own_st (fun u_ k_ => XS.aloadN X104.here hx rfl (hb hby own_d_prog_21_12_7) rfl rfl k_) ?_
  show own_Go p e below _ (T104.setTop (mkF m 8 #[.val (.ref a)] [(.ref a)]))
  obtain ⟨T105, X105, e105, st105⟩ := getF X104 hx hZ hown (host := "") (Or.inl (hw _ (List.mem_of_getElem? (i := 37) rfl))) Via.refl e104 G (g := (mkF m 8 #[.val (.ref a)] [(.ref a)])) rfl rfl (hb hby own_d_prog_21_12_8)
  refine own_st (fun u_ k_ => st105 u_ k_) ?_
  show own_Go p e below _ (T105.setTop (mkF m 11 #[.val (.ref a)] [(.ref b)]))
  obtain ⟨T106, h106, X106, e106, E106, A106, Y106, st106⟩ := cloneH X105 hx hZ hown (hw _ (List.mem_of_getElem? (i := 60) rfl)) (hw _ (List.mem_of_getElem? (i := 61) rfl)) (hw _ (List.mem_of_getElem? (i := 65) rfl)) (hw _ (List.mem_of_getElem? (i := 63) rfl)) (hw _ (List.mem_of_getElem? (i := 64) rfl)) (hw _ (List.mem_of_getElem? (i := 66) rfl)) e105 V.arh Eb (g := (mkF m 11 #[.val (.ref a)] [(.ref b)])) rfl (by rw [hml]; rfl) rfl (hb hby own_d_prog_21_12_11) (by decide) (W := 0) (cap := 1) (by show 2 * 0 + _ ≤ _; exact Nat.le_of_eq rfl) (by decide) (by decide) (by decide) (by decide)
  obtain ⟨b106, g106⟩ : ∃ z, z = h0.size := ⟨_, rfl⟩
  rw [← g106] at A106 Y106 st106
  have V106 : Arv Z h106 b106 kb .byte (1 : Int32) [(.int v0)] (.int (0 : Int32)) := A106
  refine own_st (fun u_ k_ => st106 u_ k_) ?_
  show own_Go p e below _ (T106.setTop (mkF m 14 #[.val (.ref a)] [(.ref b106)]))
  obtain ⟨T107, X107, e107, st107⟩ := castY X106 hx hZ hown (hw _ (List.mem_of_getElem? (i := 67) rfl)) e106 (Ins.self Y106) (g := (mkF m 14 #[.val (.ref a)] [(.ref b106)])) rfl rfl (hb hby own_d_prog_21_12_14)
  refine own_st (fun u_ k_ => st107 u_ k_) ?_
  show own_Go p e below _ (T107.setTop (mkF m 17 #[.val (.ref a)] [(.ref b106)]))
  have K108 : Keep h0 h106 [] := (Keep.refl h0 []).ext E106
  have z109 : h0.size ≤ b106 := Nat.le_trans (Nat.le_refl _) (Nat.le_of_eq g106.symm)
  exact own_retX X107 hx hlk hret rfl (Or.inr (Or.inr (Or.inr (Or.inr ⟨rfl, rfl, rfl⟩)))) (hb hby own_d_prog_21_12_17) (by decide) (by decide) (show QrmY1 Z w0 wl wp mr a b kb v0 h0 n0 (some (.ref b106)) T107.heap _ from (by rw [e107]; exact ⟨b106, kb, rfl, N104, K108, z109, V106, Y106⟩))
theorem own_ef_rmY2 (m : MethodId) (a : Addr)  : entryFrame m #[(.ref a)] 1 = mkF m 0 #[.val (.ref a)] [] := by first | (simp [entryFrame, mkF, argsToLocals, Value.category, maxLocals]; done) | rfl
def QrmY2 (Z : State) (w0 : Addr) (wl : Addr) (wp : Addr) (mr : Addr) (a : Addr) (b : Addr) (kb : ClassId) (v0 : Int32) (v1 : Int32) (h0 : Heap) (n0 : Nat) (v : Option Value) (h : Heap) (L : List Loc) : Prop := ∃ r : Addr, ∃ kr : ClassId, v = some (.ref r) ∧ Fr n0 L ∧ Keep h0 h [] ∧ h0.size ≤ r ∧ Arv Z h r kr .byte (2 : Int32) [(.int v0), (.int v1)] (.int (0 : Int32)) ∧ Exa Z h r "[B"
set_option maxRecDepth 65536 in
set_option maxHeartbeats 40000000 in
theorem rmY2 (l : Launch) (Z : State) (a0 : Array Value) (hw : ∀ d ∈ tables_1, d.before a0 Z = true) (ws : List Jvm.Cond) (w0 : Addr) (wl : Addr) (wp : Addr) (mr : Addr) (hS : own_S Z w0 wl wp mr) (a : Addr) (b : Addr) (kb : ClassId) (v0 : Int32) (v1 : Int32) (h0 : Heap) (n0 : Nat) (O0 : Old Z n0 h0) (Ea : Exa Z h0 a "com/example/tasdik/tasdik/core/cbor/CborValue") (F : Fld Z h0 a "com/example/tasdik/tasdik/core/cbor/CborValue" "type" "Lcom/example/tasdik/tasdik/core/cbor/CborValue$Type;" (.ref w0)) (G : Fld Z h0 a "com/example/tasdik/tasdik/core/cbor/CborValue" "bytes" "[B" (.ref b)) (V : Arv Z h0 b kb .byte (2 : Int32) [(.int v0), (.int v1)] (.int (0 : Int32))) (Eb : Exa Z h0 b "[B") :
    own_Met l (⟨"com/example/tasdik/tasdik/core/cbor/CborValue", "bytes", "()[B"⟩ : MethodName) prog_21_method_12_code 1 (some (.array .byte)) ws ({ frames := 1, cells := 1, slots := 2, locals := 14 } : Room) Z h0 #[(.ref a)] (QrmY2 Z w0 wl wp mr a b kb v0 v1 h0 n0) := by
  refine own_body (plainFor_of_name own_pn_119) ?_
  intro p e s m below meth c s₁ hx hby hml hown hnm hret hlk hZ e0 X0
  have N0 := Fr.nil n0
  refine own_st (fun u_ k_ => castTop (own_ef_rmY2 m a) k_) ?_
  show own_Go p e below _ (s₁.setTop (mkF m 0 #[.val (.ref a)] []))
  refine own_st (fun u_ k_ => XS.aloadN X0.here hx rfl (hb hby own_d_prog_21_12_0) rfl rfl k_) ?_
  show own_Go p e below _ (s₁.setTop (mkF m 1 #[.val (.ref a)] [(.ref a)]))
  have F110 : Sta Z h0 "com/example/tasdik/tasdik/core/cbor/CborValue$Type" "BYTE_STRING" "Lcom/example/tasdik/tasdik/core/cbor/CborValue$Type;" (.ref w0) := Sta.ext O0.2 hS.1
  obtain ⟨T111, X111, e111, st111⟩ := getS2 X0 hx hZ hown (host := "") (Or.inl (hw _ (List.mem_of_getElem? (i := 11) rfl))) Via.refl e0 F110 (g := (mkF m 1 #[.val (.ref a)] [(.ref a)])) rfl (hb hby own_d_prog_21_12_1)
  refine own_st (fun u_ k_ => st111 u_ k_) ?_
  show own_Go p e below _ (T111.setTop (mkF m 4 #[.val (.ref a)] [(.ref w0), (.ref a)]))
  obtain ⟨T112, v112, L112, X112, hQ112, st112⟩ := own_callP X111 hx hZ (y := (⟨"com/example/tasdik/tasdik/core/cbor/CborValue", "expect", "(Lcom/example/tasdik/tasdik/core/cbor/CborValue$Type;)V"⟩ : MethodName)) hown (hw _ (List.mem_of_getElem? (i := 56) rfl)) (hw _ (List.mem_of_getElem? (i := 57) rfl)) (own_selP hZ (hw _ (List.mem_of_getElem? (i := 10) rfl)) (hw _ (List.mem_of_getElem? (i := 58) rfl)) (hw _ (List.mem_of_getElem? (i := 57) rfl)) own_lm_134) (hw _ (List.mem_of_getElem? (i := 58) rfl)) (hw _ (List.mem_of_getElem? (i := 7) rfl)) (hw _ (List.mem_of_getElem? (i := 59) rfl)) own_lm_134 (rmX l Z a0 hw [] w0 wl wp mr hS a w0 h0 n0 O0 F) e111 Ea own_pd_148 (argsL := [(.ref w0)]) (rest := []) rfl rfl (g := (mkF m 4 #[.val (.ref a)] [(.ref w0), (.ref a)])) rfl (by rw [hml]; rfl) rfl (hb hby own_d_prog_21_12_4) (W := 0) rfl (by decide) (by decide) (by decide) (by decide)
  obtain ⟨rfl, M112, e112⟩ := hQ112
  have N112 := Fr.app N0 M112
  refine own_st (fun u_ k_ => st112 u_ k_) ?_
  show own_Go p e below _ (T112.setTop (mkF m 7 #[.val (.ref a)] []))
  refine own_st (fun u_ k_ => XS.aloadN X112.here hx rfl (hb hby own_d_prog_21_12_7) rfl rfl k_) ?_
  show own_Go p e below _ (T112.setTop (mkF m 8 #[.val (.ref a)] [(.ref a)]))
  obtain ⟨T113, X113, e113, st113⟩ := getF X112 hx hZ hown (host := "") (Or.inl (hw _ (List.mem_of_getElem? (i := 37) rfl))) Via.refl e112 G (g := (mkF m 8 #[.val (.ref a)] [(.ref a)])) rfl rfl (hb hby own_d_prog_21_12_8)
  refine own_st (fun u_ k_ => st113 u_ k_) ?_
  show own_Go p e below _ (T113.setTop (mkF m 11 #[.val (.ref a)] [(.ref b)]))
  obtain ⟨T114, h114, X114, e114, E114, A114, Y114, st114⟩ := cloneH X113 hx hZ hown (hw _ (List.mem_of_getElem? (i := 60) rfl)) (hw _ (List.mem_of_getElem? (i := 61) rfl)) (hw _ (List.mem_of_getElem? (i := 65) rfl)) (hw _ (List.mem_of_getElem? (i := 63) rfl)) (hw _ (List.mem_of_getElem? (i := 64) rfl)) (hw _ (List.mem_of_getElem? (i := 66) rfl)) e113 V.arh Eb (g := (mkF m 11 #[.val (.ref a)] [(.ref b)])) rfl (by rw [hml]; rfl) rfl (hb hby own_d_prog_21_12_11) (by decide) (W := 0) (cap := 2) (by show 2 * 0 + _ ≤ _; exact Nat.le_of_eq rfl) (by decide) (by decide) (by decide) (by decide)
  obtain ⟨b114, g114⟩ : ∃ z, z = h0.size := ⟨_, rfl⟩
  rw [← g114] at A114 Y114 st114
  have V114 : Arv Z h114 b114 kb .byte (2 : Int32) [(.int v0), (.int v1)] (.int (0 : Int32)) := A114
  refine own_st (fun u_ k_ => st114 u_ k_) ?_
  show own_Go p e below _ (T114.setTop (mkF m 14 #[.val (.ref a)] [(.ref b114)]))
  obtain ⟨T115, X115, e115, st115⟩ := castY X114 hx hZ hown (hw _ (List.mem_of_getElem? (i := 67) rfl)) e114 (Ins.self Y114) (g := (mkF m 14 #[.val (.ref a)] [(.ref b114)])) rfl rfl (hb hby own_d_prog_21_12_14)
  refine own_st (fun u_ k_ => st115 u_ k_) ?_
  show own_Go p e below _ (T115.setTop (mkF m 17 #[.val (.ref a)] [(.ref b114)]))
  have K116 : Keep h0 h114 [] := (Keep.refl h0 []).ext E114
  have z117 : h0.size ≤ b114 := Nat.le_trans (Nat.le_refl _) (Nat.le_of_eq g114.symm)
  exact own_retX X115 hx hlk hret rfl (Or.inr (Or.inr (Or.inr (Or.inr ⟨rfl, rfl, rfl⟩)))) (hb hby own_d_prog_21_12_17) (by decide) (by decide) (show QrmY2 Z w0 wl wp mr a b kb v0 v1 h0 n0 (some (.ref b114)) T115.heap _ from (by rw [e115]; exact ⟨b114, kb, rfl, N112, K116, z117, V114, Y114⟩))
theorem own_ef_rmY3 (m : MethodId) (a : Addr)  : entryFrame m #[(.ref a)] 1 = mkF m 0 #[.val (.ref a)] [] := by first | (simp [entryFrame, mkF, argsToLocals, Value.category, maxLocals]; done) | rfl
def QrmY3 (Z : State) (w0 : Addr) (wl : Addr) (wp : Addr) (mr : Addr) (a : Addr) (b : Addr) (kb : ClassId) (v0 : Int32) (v1 : Int32) (v2 : Int32) (h0 : Heap) (n0 : Nat) (v : Option Value) (h : Heap) (L : List Loc) : Prop := ∃ r : Addr, ∃ kr : ClassId, v = some (.ref r) ∧ Fr n0 L ∧ Keep h0 h [] ∧ h0.size ≤ r ∧ Arv Z h r kr .byte (3 : Int32) [(.int v0), (.int v1), (.int v2)] (.int (0 : Int32)) ∧ Exa Z h r "[B"
set_option maxRecDepth 65536 in
set_option maxHeartbeats 40000000 in
theorem rmY3 (l : Launch) (Z : State) (a0 : Array Value) (hw : ∀ d ∈ tables_1, d.before a0 Z = true) (ws : List Jvm.Cond) (w0 : Addr) (wl : Addr) (wp : Addr) (mr : Addr) (hS : own_S Z w0 wl wp mr) (a : Addr) (b : Addr) (kb : ClassId) (v0 : Int32) (v1 : Int32) (v2 : Int32) (h0 : Heap) (n0 : Nat) (O0 : Old Z n0 h0) (Ea : Exa Z h0 a "com/example/tasdik/tasdik/core/cbor/CborValue") (F : Fld Z h0 a "com/example/tasdik/tasdik/core/cbor/CborValue" "type" "Lcom/example/tasdik/tasdik/core/cbor/CborValue$Type;" (.ref w0)) (G : Fld Z h0 a "com/example/tasdik/tasdik/core/cbor/CborValue" "bytes" "[B" (.ref b)) (V : Arv Z h0 b kb .byte (3 : Int32) [(.int v0), (.int v1), (.int v2)] (.int (0 : Int32))) (Eb : Exa Z h0 b "[B") :
    own_Met l (⟨"com/example/tasdik/tasdik/core/cbor/CborValue", "bytes", "()[B"⟩ : MethodName) prog_21_method_12_code 1 (some (.array .byte)) ws ({ frames := 1, cells := 1, slots := 3, locals := 14 } : Room) Z h0 #[(.ref a)] (QrmY3 Z w0 wl wp mr a b kb v0 v1 v2 h0 n0) := by
  refine own_body (plainFor_of_name own_pn_119) ?_
  intro p e s m below meth c s₁ hx hby hml hown hnm hret hlk hZ e0 X0
  have N0 := Fr.nil n0
  refine own_st (fun u_ k_ => castTop (own_ef_rmY3 m a) k_) ?_
  show own_Go p e below _ (s₁.setTop (mkF m 0 #[.val (.ref a)] []))
  refine own_st (fun u_ k_ => XS.aloadN X0.here hx rfl (hb hby own_d_prog_21_12_0) rfl rfl k_) ?_
  show own_Go p e below _ (s₁.setTop (mkF m 1 #[.val (.ref a)] [(.ref a)]))
  have F118 : Sta Z h0 "com/example/tasdik/tasdik/core/cbor/CborValue$Type" "BYTE_STRING" "Lcom/example/tasdik/tasdik/core/cbor/CborValue$Type;" (.ref w0) := Sta.ext O0.2 hS.1
  obtain ⟨T119, X119, e119, st119⟩ := getS2 X0 hx hZ hown (host := "") (Or.inl (hw _ (List.mem_of_getElem? (i := 11) rfl))) Via.refl e0 F118 (g := (mkF m 1 #[.val (.ref a)] [(.ref a)])) rfl (hb hby own_d_prog_21_12_1)
  refine own_st (fun u_ k_ => st119 u_ k_) ?_
  show own_Go p e below _ (T119.setTop (mkF m 4 #[.val (.ref a)] [(.ref w0), (.ref a)]))
  obtain ⟨T120, v120, L120, X120, hQ120, st120⟩ := own_callP X119 hx hZ (y := (⟨"com/example/tasdik/tasdik/core/cbor/CborValue", "expect", "(Lcom/example/tasdik/tasdik/core/cbor/CborValue$Type;)V"⟩ : MethodName)) hown (hw _ (List.mem_of_getElem? (i := 56) rfl)) (hw _ (List.mem_of_getElem? (i := 57) rfl)) (own_selP hZ (hw _ (List.mem_of_getElem? (i := 10) rfl)) (hw _ (List.mem_of_getElem? (i := 58) rfl)) (hw _ (List.mem_of_getElem? (i := 57) rfl)) own_lm_134) (hw _ (List.mem_of_getElem? (i := 58) rfl)) (hw _ (List.mem_of_getElem? (i := 7) rfl)) (hw _ (List.mem_of_getElem? (i := 59) rfl)) own_lm_134 (rmX l Z a0 hw [] w0 wl wp mr hS a w0 h0 n0 O0 F) e119 Ea own_pd_148 (argsL := [(.ref w0)]) (rest := []) rfl rfl (g := (mkF m 4 #[.val (.ref a)] [(.ref w0), (.ref a)])) rfl (by rw [hml]; rfl) rfl (hb hby own_d_prog_21_12_4) (W := 0) rfl (by decide) (by decide) (by decide) (by decide)
  obtain ⟨rfl, M120, e120⟩ := hQ120
  have N120 := Fr.app N0 M120
  refine own_st (fun u_ k_ => st120 u_ k_) ?_
  show own_Go p e below _ (T120.setTop (mkF m 7 #[.val (.ref a)] []))
  refine own_st (fun u_ k_ => XS.aloadN X120.here hx rfl (hb hby own_d_prog_21_12_7) rfl rfl k_) ?_
  show own_Go p e below _ (T120.setTop (mkF m 8 #[.val (.ref a)] [(.ref a)]))
  obtain ⟨T121, X121, e121, st121⟩ := getF X120 hx hZ hown (host := "") (Or.inl (hw _ (List.mem_of_getElem? (i := 37) rfl))) Via.refl e120 G (g := (mkF m 8 #[.val (.ref a)] [(.ref a)])) rfl rfl (hb hby own_d_prog_21_12_8)
  refine own_st (fun u_ k_ => st121 u_ k_) ?_
  show own_Go p e below _ (T121.setTop (mkF m 11 #[.val (.ref a)] [(.ref b)]))
  obtain ⟨T122, h122, X122, e122, E122, A122, Y122, st122⟩ := cloneH X121 hx hZ hown (hw _ (List.mem_of_getElem? (i := 60) rfl)) (hw _ (List.mem_of_getElem? (i := 61) rfl)) (hw _ (List.mem_of_getElem? (i := 65) rfl)) (hw _ (List.mem_of_getElem? (i := 63) rfl)) (hw _ (List.mem_of_getElem? (i := 64) rfl)) (hw _ (List.mem_of_getElem? (i := 66) rfl)) e121 V.arh Eb (g := (mkF m 11 #[.val (.ref a)] [(.ref b)])) rfl (by rw [hml]; rfl) rfl (hb hby own_d_prog_21_12_11) (by decide) (W := 0) (cap := 3) (by show 2 * 0 + _ ≤ _; exact Nat.le_of_eq rfl) (by decide) (by decide) (by decide) (by decide)
  obtain ⟨b122, g122⟩ : ∃ z, z = h0.size := ⟨_, rfl⟩
  rw [← g122] at A122 Y122 st122
  have V122 : Arv Z h122 b122 kb .byte (3 : Int32) [(.int v0), (.int v1), (.int v2)] (.int (0 : Int32)) := A122
  refine own_st (fun u_ k_ => st122 u_ k_) ?_
  show own_Go p e below _ (T122.setTop (mkF m 14 #[.val (.ref a)] [(.ref b122)]))
  obtain ⟨T123, X123, e123, st123⟩ := castY X122 hx hZ hown (hw _ (List.mem_of_getElem? (i := 67) rfl)) e122 (Ins.self Y122) (g := (mkF m 14 #[.val (.ref a)] [(.ref b122)])) rfl rfl (hb hby own_d_prog_21_12_14)
  refine own_st (fun u_ k_ => st123 u_ k_) ?_
  show own_Go p e below _ (T123.setTop (mkF m 17 #[.val (.ref a)] [(.ref b122)]))
  have K124 : Keep h0 h122 [] := (Keep.refl h0 []).ext E122
  have z125 : h0.size ≤ b122 := Nat.le_trans (Nat.le_refl _) (Nat.le_of_eq g122.symm)
  exact own_retX X123 hx hlk hret rfl (Or.inr (Or.inr (Or.inr (Or.inr ⟨rfl, rfl, rfl⟩)))) (hb hby own_d_prog_21_12_17) (by decide) (by decide) (show QrmY3 Z w0 wl wp mr a b kb v0 v1 v2 h0 n0 (some (.ref b122)) T123.heap _ from (by rw [e123]; exact ⟨b122, kb, rfl, N120, K124, z125, V122, Y122⟩))
theorem own_d_jdk_37_2_0 : decode jdk_37_method_2_code 0 = .ok (.aload_n 0, 1) := by decide +kernel
theorem own_d_jdk_37_2_1 : decode jdk_37_method_2_code 1 = .ok (.getfield 7, 3) := by decide +kernel
theorem own_d_jdk_37_2_4 : decode jdk_37_method_2_code 4 = .ok (.ireturn, 1) := by decide +kernel
theorem own_pn_157 : plainName "java/lang/Enum" = true := by first | (simp [plainName, overriddenIn]; done) | decide +kernel
theorem own_ef_rmO (m : MethodId) (a : Addr)  : entryFrame m #[(.ref a)] 1 = mkF m 0 #[.val (.ref a)] [] := by first | (simp [entryFrame, mkF, argsToLocals, Value.category, maxLocals]; done) | rfl
def QrmO (Z : State) (w0 : Addr) (wl : Addr) (wp : Addr) (mr : Addr) (a : Addr) (o : Int32) (h0 : Heap) (n0 : Nat) (v : Option Value) (h : Heap) (L : List Loc) : Prop := v = some (.int o) ∧ Fr n0 L ∧ h = h0
set_option maxRecDepth 65536 in
set_option maxHeartbeats 40000000 in
theorem rmO (l : Launch) (Z : State) (a0 : Array Value) (hw : ∀ d ∈ tables_1, d.before a0 Z = true) (ws : List Jvm.Cond) (w0 : Addr) (wl : Addr) (wp : Addr) (mr : Addr) (hS : own_S Z w0 wl wp mr) (a : Addr) (o : Int32) (h0 : Heap) (n0 : Nat) (O0 : Old Z n0 h0) (F : Fld Z h0 a "java/lang/Enum" "ordinal" "I" (.int o)) :
    own_Met l (⟨"java/lang/Enum", "ordinal", "()I"⟩ : MethodName) jdk_37_method_2_code 1 (some .int) ws ({ frames := 0, cells := 0, slots := 0, locals := 0 } : Room) Z h0 #[(.ref a)] (QrmO Z w0 wl wp mr a o h0 n0) := by
  refine own_body (plainFor_of_name own_pn_157) ?_
  intro p e s m below meth c s₁ hx hby hml hown hnm hret hlk hZ e0 X0
  have N0 := Fr.nil n0
  refine own_st (fun u_ k_ => castTop (own_ef_rmO m a) k_) ?_
  show own_Go p e below _ (s₁.setTop (mkF m 0 #[.val (.ref a)] []))
  refine own_st (fun u_ k_ => XS.aloadN X0.here hx rfl (hb hby own_d_jdk_37_2_0) rfl rfl k_) ?_
  show own_Go p e below _ (s₁.setTop (mkF m 1 #[.val (.ref a)] [(.ref a)]))
  obtain ⟨T126, X126, e126, st126⟩ := getF X0 hx hZ hown (host := "") (Or.inl (hw _ (List.mem_of_getElem? (i := 91) rfl))) Via.refl e0 F (g := (mkF m 1 #[.val (.ref a)] [(.ref a)])) rfl rfl (hb hby own_d_jdk_37_2_1)
  refine own_st (fun u_ k_ => st126 u_ k_) ?_
  show own_Go p e below _ (T126.setTop (mkF m 4 #[.val (.ref a)] [(.int o)]))
  exact own_retX X126 hx hlk hret rfl (Or.inl ⟨rfl, by simp, _, rfl⟩) (hb hby own_d_jdk_37_2_4) (by decide) (by decide) (show QrmO Z w0 wl wp mr a o h0 n0 (some (.int o)) T126.heap _ from (by rw [e126]; exact ⟨rfl, N0, rfl⟩))
theorem own_d_jdk_37_8_0 : decode jdk_37_method_8_code 0 = .ok (.aload_n 1, 1) := by decide +kernel
theorem own_d_jdk_37_8_1 : decode jdk_37_method_8_code 1 = .ok (.astore_n 2, 1) := by decide +kernel
theorem own_d_jdk_37_8_2 : decode jdk_37_method_8_code 2 = .ok (.aload_n 0, 1) := by decide +kernel
theorem own_d_jdk_37_8_3 : decode jdk_37_method_8_code 3 = .ok (.astore_n 3, 1) := by decide +kernel
theorem own_d_jdk_37_8_4 : decode jdk_37_method_8_code 4 = .ok (.aload_n 3, 1) := by decide +kernel
theorem own_d_jdk_37_8_5 : decode jdk_37_method_8_code 5 = .ok (.invokevirtual 29, 3) := by decide +kernel
theorem own_d_jdk_37_8_8 : decode jdk_37_method_8_code 8 = .ok (.aload_n 2, 1) := by decide +kernel
theorem own_d_jdk_37_8_9 : decode jdk_37_method_8_code 9 = .ok (.invokevirtual 29, 3) := by decide +kernel
theorem own_d_jdk_37_8_12 : decode jdk_37_method_8_code 12 = .ok (.if_acmp .eq 22, 3) := by decide +kernel
theorem own_d_jdk_37_8_34 : decode jdk_37_method_8_code 34 = .ok (.aload_n 3, 1) := by decide +kernel
theorem own_d_jdk_37_8_35 : decode jdk_37_method_8_code 35 = .ok (.getfield 7, 3) := by decide +kernel
theorem own_d_jdk_37_8_38 : decode jdk_37_method_8_code 38 = .ok (.aload_n 2, 1) := by decide +kernel
theorem own_d_jdk_37_8_39 : decode jdk_37_method_8_code 39 = .ok (.getfield 7, 3) := by decide +kernel
theorem own_d_jdk_37_8_42 : decode jdk_37_method_8_code 42 = .ok (.isub, 1) := by decide +kernel
theorem own_d_jdk_37_8_43 : decode jdk_37_method_8_code 43 = .ok (.ireturn, 1) := by decide +kernel
theorem own_ef_rmC (m : MethodId) (a : Addr)  : entryFrame m #[(.ref a), (.ref a)] 4 = mkF m 0 #[.val (.ref a), .val (.ref a), .unset, .unset] [] := by first | (simp [entryFrame, mkF, argsToLocals, Value.category, maxLocals]; done) | rfl
def QrmC (Z : State) (w0 : Addr) (wl : Addr) (wp : Addr) (mr : Addr) (a : Addr) (o : Int32) (h0 : Heap) (n0 : Nat) (v : Option Value) (h : Heap) (L : List Loc) : Prop := v = some (.int (o - o)) ∧ Fr n0 L ∧ h = h0
set_option maxRecDepth 65536 in
set_option maxHeartbeats 40000000 in
theorem rmC (l : Launch) (Z : State) (a0 : Array Value) (hw : ∀ d ∈ tables_1, d.before a0 Z = true) (ws : List Jvm.Cond) (w0 : Addr) (wl : Addr) (wp : Addr) (mr : Addr) (hS : own_S Z w0 wl wp mr) (a : Addr) (o : Int32) (h0 : Heap) (n0 : Nat) (O0 : Old Z n0 h0) (E : Exa Z h0 a "com/example/tasdik/tasdik/core/cbor/CborValue$Type") (F : Fld Z h0 a "java/lang/Enum" "ordinal" "I" (.int o)) :
    own_Met l (⟨"java/lang/Enum", "compareTo", "(Ljava/lang/Enum;)I"⟩ : MethodName) jdk_37_method_8_code 4 (some .int) ws ({ frames := 1, cells := 0, slots := 0, locals := 28 } : Room) Z h0 #[(.ref a), (.ref a)] (QrmC Z w0 wl wp mr a o h0 n0) := by
  refine own_body (plainFor_of_name own_pn_157) ?_
  intro p e s m below meth c s₁ hx hby hml hown hnm hret hlk hZ e0 X0
  have N0 := Fr.nil n0
  refine own_st (fun u_ k_ => castTop (own_ef_rmC m a) k_) ?_
  show own_Go p e below _ (s₁.setTop (mkF m 0 #[.val (.ref a), .val (.ref a), .unset, .unset] []))
  refine own_st (fun u_ k_ => XS.aloadN X0.here hx rfl (hb hby own_d_jdk_37_8_0) rfl rfl k_) ?_
  show own_Go p e below _ (s₁.setTop (mkF m 1 #[.val (.ref a), .val (.ref a), .unset, .unset] [(.ref a)]))
  refine own_st (fun u_ k_ => XS.astoreN X0.here hx rfl (hb hby own_d_jdk_37_8_1) rfl rfl (l' := #[.val (.ref a), .val (.ref a), .val (.ref a), .unset]) rfl k_) ?_
  show own_Go p e below _ (s₁.setTop (mkF m 2 #[.val (.ref a), .val (.ref a), .val (.ref a), .unset] []))
  refine own_st (fun u_ k_ => XS.aloadN X0.here hx rfl (hb hby own_d_jdk_37_8_2) rfl rfl k_) ?_
  show own_Go p e below _ (s₁.setTop (mkF m 3 #[.val (.ref a), .val (.ref a), .val (.ref a), .unset] [(.ref a)]))
  refine own_st (fun u_ k_ => XS.astoreN X0.here hx rfl (hb hby own_d_jdk_37_8_3) rfl rfl (l' := #[.val (.ref a), .val (.ref a), .val (.ref a), .val (.ref a)]) rfl k_) ?_
  show own_Go p e below _ (s₁.setTop (mkF m 4 #[.val (.ref a), .val (.ref a), .val (.ref a), .val (.ref a)] []))
  refine own_st (fun u_ k_ => XS.aloadN X0.here hx rfl (hb hby own_d_jdk_37_8_4) rfl rfl k_) ?_
  show own_Go p e below _ (s₁.setTop (mkF m 5 #[.val (.ref a), .val (.ref a), .val (.ref a), .val (.ref a)] [(.ref a)]))
  obtain ⟨T127, X127, e127, st127⟩ := own_gcls X0 hx hZ hown (hw _ (List.mem_of_getElem? (i := 85) rfl)) (hw _ (List.mem_of_getElem? (i := 86) rfl)) (hw _ (List.mem_of_getElem? (i := 88) rfl)) (hw _ (List.mem_of_getElem? (i := 87) rfl)) (hw _ (List.mem_of_getElem? (i := 89) rfl)) e0 E hS.2.2.2.2.2 (g := (mkF m 5 #[.val (.ref a), .val (.ref a), .val (.ref a), .val (.ref a)] [(.ref a)])) rfl (by rw [hml]; rfl) rfl (hb hby own_d_jdk_37_8_5) (by decide) (W := 0) (by show 2 * 0 + _ ≤ _; exact Nat.le_of_eq rfl) (by decide)
  refine own_st (fun u_ k_ => st127 u_ k_) ?_
  show own_Go p e below _ (T127.setTop (mkF m 8 #[.val (.ref a), .val (.ref a), .val (.ref a), .val (.ref a)] [(.ref mr)]))
  refine own_st (fun u_ k_ => XS.aloadN X127.here hx rfl (hb hby own_d_jdk_37_8_8) rfl rfl k_) ?_
  show own_Go p e below _ (T127.setTop (mkF m 9 #[.val (.ref a), .val (.ref a), .val (.ref a), .val (.ref a)] [(.ref a), (.ref mr)]))
  obtain ⟨T128, X128, e128, st128⟩ := own_gcls X127 hx hZ hown (hw _ (List.mem_of_getElem? (i := 85) rfl)) (hw _ (List.mem_of_getElem? (i := 86) rfl)) (hw _ (List.mem_of_getElem? (i := 88) rfl)) (hw _ (List.mem_of_getElem? (i := 87) rfl)) (hw _ (List.mem_of_getElem? (i := 89) rfl)) e127 E hS.2.2.2.2.2 (g := (mkF m 9 #[.val (.ref a), .val (.ref a), .val (.ref a), .val (.ref a)] [(.ref a), (.ref mr)])) rfl (by rw [hml]; rfl) rfl (hb hby own_d_jdk_37_8_9) (by decide) (W := 1) (by show 2 * 0 + _ ≤ _; exact Nat.le_of_eq rfl) (by decide)
  refine own_st (fun u_ k_ => st128 u_ k_) ?_
  show own_Go p e below _ (T128.setTop (mkF m 12 #[.val (.ref a), .val (.ref a), .val (.ref a), .val (.ref a)] [(.ref mr), (.ref mr)]))
  refine own_st (fun u_ k_ => XT.acmpYes X128.here hx rfl (pc0 := 12) (pc' := 34) rfl (hb hby own_d_jdk_37_8_12) rfl rfl rfl (XT.aa_eq_t rfl) (by decide) (by decide) k_) ?_
  show own_Go p e below _ (T128.setTop (mkF m 34 #[.val (.ref a), .val (.ref a), .val (.ref a), .val (.ref a)] []))
  refine own_st (fun u_ k_ => XS.aloadN X128.here hx rfl (hb hby own_d_jdk_37_8_34) rfl rfl k_) ?_
  show own_Go p e below _ (T128.setTop (mkF m 35 #[.val (.ref a), .val (.ref a), .val (.ref a), .val (.ref a)] [(.ref a)]))
  obtain ⟨T129, X129, e129, st129⟩ := getF X128 hx hZ hown (host := "") (Or.inl (hw _ (List.mem_of_getElem? (i := 91) rfl))) Via.refl e128 F (g := (mkF m 35 #[.val (.ref a), .val (.ref a), .val (.ref a), .val (.ref a)] [(.ref a)])) rfl rfl (hb hby own_d_jdk_37_8_35)
  refine own_st (fun u_ k_ => st129 u_ k_) ?_
  show own_Go p e below _ (T129.setTop (mkF m 38 #[.val (.ref a), .val (.ref a), .val (.ref a), .val (.ref a)] [(.int o)]))
  refine own_st (fun u_ k_ => XS.aloadN X129.here hx rfl (hb hby own_d_jdk_37_8_38) rfl rfl k_) ?_
  show own_Go p e below _ (T129.setTop (mkF m 39 #[.val (.ref a), .val (.ref a), .val (.ref a), .val (.ref a)] [(.ref a), (.int o)]))
  obtain ⟨T130, X130, e130, st130⟩ := getF X129 hx hZ hown (host := "") (Or.inl (hw _ (List.mem_of_getElem? (i := 91) rfl))) Via.refl e129 F (g := (mkF m 39 #[.val (.ref a), .val (.ref a), .val (.ref a), .val (.ref a)] [(.ref a), (.int o)])) rfl rfl (hb hby own_d_jdk_37_8_39)
  refine own_st (fun u_ k_ => st130 u_ k_) ?_
  show own_Go p e below _ (T130.setTop (mkF m 42 #[.val (.ref a), .val (.ref a), .val (.ref a), .val (.ref a)] [(.int o), (.int o)]))
  refine own_st (fun u_ k_ => XS.isub X130.here hx rfl (hb hby own_d_jdk_37_8_42) rfl k_) ?_
  show own_Go p e below _ (T130.setTop (mkF m 43 #[.val (.ref a), .val (.ref a), .val (.ref a), .val (.ref a)] [(.int (o - o))]))
  exact own_retX X130 hx hlk hret rfl (Or.inl ⟨rfl, by simp, _, rfl⟩) (hb hby own_d_jdk_37_8_43) (by decide) (by decide) (show QrmC Z w0 wl wp mr a o h0 n0 (some (.int (o - o))) T130.heap _ from (by rw [e130]; exact ⟨rfl, N0, rfl⟩))
theorem own_d_jdk_29_69_0 : decode jdk_29_method_69_code 0 = .ok (.iload_n 0, 1) := by decide +kernel
theorem own_d_jdk_29_69_1 : decode jdk_29_method_69_code 1 = .ok (.iload_n 1, 1) := by decide +kernel
theorem own_d_jdk_29_69_2 : decode jdk_29_method_69_code 2 = .ok (.if_icmp .gt 7, 3) := by decide +kernel
theorem own_d_jdk_29_69_5 : decode jdk_29_method_69_code 5 = .ok (.iload_n 0, 1) := by decide +kernel
theorem own_d_jdk_29_69_6 : decode jdk_29_method_69_code 6 = .ok (.goto 4, 3) := by decide +kernel
theorem own_d_jdk_29_69_10 : decode jdk_29_method_69_code 10 = .ok (.ireturn, 1) := by decide +kernel
theorem own_pf_179 : plainFor (⟨"java/lang/Math", "min", "(II)I"⟩ : MethodName) = true := by decide +kernel
theorem own_ef_rmMin0_0 (m : MethodId)   : entryFrame m #[(.int (0 : Int32)), (.int (0 : Int32))] 2 = mkF m 0 #[.val (.int (0 : Int32)), .val (.int (0 : Int32))] [] := by first | (simp [entryFrame, mkF, argsToLocals, Value.category, maxLocals]; done) | rfl
def QrmMin0_0 (Z : State) (w0 : Addr) (wl : Addr) (wp : Addr) (mr : Addr)  (h0 : Heap) (n0 : Nat) (v : Option Value) (h : Heap) (L : List Loc) : Prop := v = some (.int (0 : Int32)) ∧ Fr n0 L ∧ h = h0
set_option maxRecDepth 65536 in
set_option maxHeartbeats 40000000 in
theorem rmMin0_0 (l : Launch) (Z : State) (a0 : Array Value) (hw : ∀ d ∈ tables_1, d.before a0 Z = true) (ws : List Jvm.Cond) (w0 : Addr) (wl : Addr) (wp : Addr) (mr : Addr) (hS : own_S Z w0 wl wp mr)  (h0 : Heap) (n0 : Nat) (O0 : Old Z n0 h0)  :
    own_Met l (⟨"java/lang/Math", "min", "(II)I"⟩ : MethodName) jdk_29_method_69_code 2 (some .int) ws ({ frames := 0, cells := 0, slots := 0, locals := 0 } : Room) Z h0 #[(.int (0 : Int32)), (.int (0 : Int32))] (QrmMin0_0 Z w0 wl wp mr  h0 n0) := by
  refine own_body own_pf_179 ?_
  intro p e s m below meth c s₁ hx hby hml hown hnm hret hlk hZ e0 X0
  have N0 := Fr.nil n0
  refine own_st (fun u_ k_ => castTop (own_ef_rmMin0_0 m ) k_) ?_
  show own_Go p e below _ (s₁.setTop (mkF m 0 #[.val (.int (0 : Int32)), .val (.int (0 : Int32))] []))
  refine own_st (fun u_ k_ => XS.iloadN X0.here hx rfl (hb hby own_d_jdk_29_69_0) rfl k_) ?_
  show own_Go p e below _ (s₁.setTop (mkF m 1 #[.val (.int (0 : Int32)), .val (.int (0 : Int32))] [(.int (0 : Int32))]))
  refine own_st (fun u_ k_ => XS.iloadN X0.here hx rfl (hb hby own_d_jdk_29_69_1) rfl k_) ?_
  show own_Go p e below _ (s₁.setTop (mkF m 2 #[.val (.int (0 : Int32)), .val (.int (0 : Int32))] [(.int (0 : Int32)), (.int (0 : Int32))]))
  refine own_st (fun u_ k_ => XS.icmpNo X0.here hx rfl (hb hby own_d_jdk_29_69_2) rfl (XT.ii_gt_f (by decide)) k_) ?_
  show own_Go p e below _ (s₁.setTop (mkF m 5 #[.val (.int (0 : Int32)), .val (.int (0 : Int32))] []))
  refine own_st (fun u_ k_ => XS.iloadN X0.here hx rfl (hb hby own_d_jdk_29_69_5) rfl k_) ?_
  show own_Go p e below _ (s₁.setTop (mkF m 6 #[.val (.int (0 : Int32)), .val (.int (0 : Int32))] [(.int (0 : Int32))]))
  refine own_st (fun u_ k_ => XS.goto X0.here hx rfl (pc0 := 6) (pc' := 10) rfl (hb hby own_d_jdk_29_69_6) (by decide) (by decide) k_) ?_
  show own_Go p e below _ (s₁.setTop (mkF m 10 #[.val (.int (0 : Int32)), .val (.int (0 : Int32))] [(.int (0 : Int32))]))
  exact own_retX X0 hx hlk hret rfl (Or.inl ⟨rfl, by simp, _, rfl⟩) (hb hby own_d_jdk_29_69_10) (by decide) (by decide) (show QrmMin0_0 Z w0 wl wp mr  h0 n0 (some (.int (0 : Int32))) s₁.heap _ from (by rw [e0]; exact ⟨rfl, N0, rfl⟩))
theorem own_d_jdk_48_13_0 : decode jdk_48_method_13_code 0 = .ok (.iconst 0, 1) := by decide +kernel
theorem own_d_jdk_48_13_1 : decode jdk_48_method_13_code 1 = .ok (.istore_n 3, 1) := by decide +kernel
theorem own_d_jdk_48_13_2 : decode jdk_48_method_13_code 2 = .ok (.iload_n 2, 1) := by decide +kernel
theorem own_d_jdk_48_13_3 : decode jdk_48_method_13_code 3 = .ok (.bipush 7, 2) := by decide +kernel
theorem own_d_jdk_48_13_5 : decode jdk_48_method_13_code 5 = .ok (.if_icmp .le 44, 3) := by decide +kernel
theorem own_d_jdk_48_13_49 : decode jdk_48_method_13_code 49 = .ok (.iload_n 3, 1) := by decide +kernel
theorem own_d_jdk_48_13_50 : decode jdk_48_method_13_code 50 = .ok (.iload_n 2, 1) := by decide +kernel
theorem own_d_jdk_48_13_51 : decode jdk_48_method_13_code 51 = .ok (.if_icmp .ge 20, 3) := by decide +kernel
theorem own_d_jdk_48_13_71 : decode jdk_48_method_13_code 71 = .ok (.iconst (-1), 1) := by decide +kernel
theorem own_d_jdk_48_13_72 : decode jdk_48_method_13_code 72 = .ok (.ireturn, 1) := by decide +kernel
theorem own_pn_190 : plainName "jdk/internal/util/ArraysSupport" = true := by first | (simp [plainName, overriddenIn]; done) | decide +kernel
theorem own_ef_rmMis0_0 (m : MethodId) (a : Addr) (b : Addr)  : entryFrame m #[(.ref a), (.ref b), (.int (0 : Int32))] 4 = mkF m 0 #[.val (.ref a), .val (.ref b), .val (.int (0 : Int32)), .unset] [] := by first | (simp [entryFrame, mkF, argsToLocals, Value.category, maxLocals]; done) | rfl
def QrmMis0_0 (Z : State) (w0 : Addr) (wl : Addr) (wp : Addr) (mr : Addr) (a : Addr) (b : Addr) (ka : ClassId) (kb : ClassId) (h0 : Heap) (n0 : Nat) (v : Option Value) (h : Heap) (L : List Loc) : Prop := v = some (.int (-1 : Int32)) ∧ Fr n0 L ∧ h = h0
set_option maxRecDepth 65536 in
set_option maxHeartbeats 40000000 in
theorem rmMis0_0 (l : Launch) (Z : State) (a0 : Array Value) (hw : ∀ d ∈ tables_1, d.before a0 Z = true) (ws : List Jvm.Cond) (w0 : Addr) (wl : Addr) (wp : Addr) (mr : Addr) (hS : own_S Z w0 wl wp mr) (a : Addr) (b : Addr) (ka : ClassId) (kb : ClassId) (h0 : Heap) (n0 : Nat) (O0 : Old Z n0 h0) (V : Arv Z h0 a ka .byte (0 : Int32) [] (.int (0 : Int32))) (U : Arv Z h0 b kb .byte (0 : Int32) [] (.int (0 : Int32))) :
    own_Met l (⟨"jdk/internal/util/ArraysSupport", "mismatch", "([B[BI)I"⟩ : MethodName) jdk_48_method_13_code 4 (some .int) ws ({ frames := 0, cells := 0, slots := 0, locals := 0 } : Room) Z h0 #[(.ref a), (.ref b), (.int (0 : Int32))] (QrmMis0_0 Z w0 wl wp mr a b ka kb h0 n0) := by
  refine own_body (plainFor_of_name own_pn_190) ?_
  intro p e s m below meth c s₁ hx hby hml hown hnm hret hlk hZ e0 X0
  have N0 := Fr.nil n0
  refine own_st (fun u_ k_ => castTop (own_ef_rmMis0_0 m a b) k_) ?_
  show own_Go p e below _ (s₁.setTop (mkF m 0 #[.val (.ref a), .val (.ref b), .val (.int (0 : Int32)), .unset] []))
  refine own_st (fun u_ k_ => XS.iconst X0.here hx rfl (hb hby own_d_jdk_48_13_0) k_) ?_
  show own_Go p e below _ (s₁.setTop (mkF m 1 #[.val (.ref a), .val (.ref b), .val (.int (0 : Int32)), .unset] [(.int (0 : Int32))]))
  refine own_st (fun u_ k_ => XS.istoreN X0.here hx rfl (hb hby own_d_jdk_48_13_1) rfl (l' := #[.val (.ref a), .val (.ref b), .val (.int (0 : Int32)), .val (.int (0 : Int32))]) rfl k_) ?_
  show own_Go p e below _ (s₁.setTop (mkF m 2 #[.val (.ref a), .val (.ref b), .val (.int (0 : Int32)), .val (.int (0 : Int32))] []))
  refine own_st (fun u_ k_ => XS.iloadN X0.here hx rfl (hb hby own_d_jdk_48_13_2) rfl k_) ?_
  show own_Go p e below _ (s₁.setTop (mkF m 3 #[.val (.ref a), .val (.ref b), .val (.int (0 : Int32)), .val (.int (0 : Int32))] [(.int (0 : Int32))]))
  refine own_st (fun u_ k_ => XS.bipush X0.here hx rfl (hb hby own_d_jdk_48_13_3) k_) ?_
  show own_Go p e below _ (s₁.setTop (mkF m 5 #[.val (.ref a), .val (.ref b), .val (.int (0 : Int32)), .val (.int (0 : Int32))] [(.int (7 : Int32)), (.int (0 : Int32))]))
  refine own_st (fun u_ k_ => XS.icmpYes X0.here hx rfl (pc0 := 5) (pc' := 49) rfl (hb hby own_d_jdk_48_13_5) rfl (XT.ii_le_t (by decide)) (by decide) (by decide) k_) ?_
  show own_Go p e below _ (s₁.setTop (mkF m 49 #[.val (.ref a), .val (.ref b), .val (.int (0 : Int32)), .val (.int (0 : Int32))] []))
  refine own_st (fun u_ k_ => XS.iloadN X0.here hx rfl (hb hby own_d_jdk_48_13_49) rfl k_) ?_
  show own_Go p e below _ (s₁.setTop (mkF m 50 #[.val (.ref a), .val (.ref b), .val (.int (0 : Int32)), .val (.int (0 : Int32))] [(.int (0 : Int32))]))
  refine own_st (fun u_ k_ => XS.iloadN X0.here hx rfl (hb hby own_d_jdk_48_13_50) rfl k_) ?_
  show own_Go p e below _ (s₁.setTop (mkF m 51 #[.val (.ref a), .val (.ref b), .val (.int (0 : Int32)), .val (.int (0 : Int32))] [(.int (0 : Int32)), (.int (0 : Int32))]))
  refine own_st (fun u_ k_ => XS.icmpYes X0.here hx rfl (pc0 := 51) (pc' := 71) rfl (hb hby own_d_jdk_48_13_51) rfl (XT.ii_ge_t (by decide)) (by decide) (by decide) k_) ?_
  show own_Go p e below _ (s₁.setTop (mkF m 71 #[.val (.ref a), .val (.ref b), .val (.int (0 : Int32)), .val (.int (0 : Int32))] []))
  refine own_st (fun u_ k_ => XS.iconst X0.here hx rfl (hb hby own_d_jdk_48_13_71) k_) ?_
  show own_Go p e below _ (s₁.setTop (mkF m 72 #[.val (.ref a), .val (.ref b), .val (.int (0 : Int32)), .val (.int (0 : Int32))] [(.int (-1 : Int32))]))
  exact own_retX X0 hx hlk hret rfl (Or.inl ⟨rfl, by simp, _, rfl⟩) (hb hby own_d_jdk_48_13_72) (by decide) (by decide) (show QrmMis0_0 Z w0 wl wp mr a b ka kb h0 n0 (some (.int (-1 : Int32))) s₁.heap _ from (by rw [e0]; exact ⟨rfl, N0, rfl⟩))
theorem own_d_jdk_65_201_0 : decode jdk_65_method_201_code 0 = .ok (.aload_n 0, 1) := by decide +kernel
theorem own_d_jdk_65_201_1 : decode jdk_65_method_201_code 1 = .ok (.aload_n 1, 1) := by decide +kernel
theorem own_d_jdk_65_201_2 : decode jdk_65_method_201_code 2 = .ok (.if_acmp .ne 5, 3) := by decide +kernel
theorem own_d_jdk_65_201_7 : decode jdk_65_method_201_code 7 = .ok (.aload_n 0, 1) := by decide +kernel
theorem own_d_jdk_65_201_8 : decode jdk_65_method_201_code 8 = .ok (.ifnull 7, 3) := by decide +kernel
theorem own_d_jdk_65_201_11 : decode jdk_65_method_201_code 11 = .ok (.aload_n 1, 1) := by decide +kernel
theorem own_d_jdk_65_201_12 : decode jdk_65_method_201_code 12 = .ok (.ifnonnull 13, 3) := by decide +kernel
theorem own_d_jdk_65_201_25 : decode jdk_65_method_201_code 25 = .ok (.aload_n 0, 1) := by decide +kernel
theorem own_d_jdk_65_201_26 : decode jdk_65_method_201_code 26 = .ok (.aload_n 1, 1) := by decide +kernel
theorem own_d_jdk_65_201_27 : decode jdk_65_method_201_code 27 = .ok (.aload_n 0, 1) := by decide +kernel
theorem own_d_jdk_65_201_28 : decode jdk_65_method_201_code 28 = .ok (.arraylength, 1) := by decide +kernel
theorem own_d_jdk_65_201_29 : decode jdk_65_method_201_code 29 = .ok (.aload_n 1, 1) := by decide +kernel
theorem own_d_jdk_65_201_30 : decode jdk_65_method_201_code 30 = .ok (.arraylength, 1) := by decide +kernel
theorem own_d_jdk_65_201_31 : decode jdk_65_method_201_code 31 = .ok (.invokestatic 304, 3) := by decide +kernel
theorem own_lm_205 : ("java/lang/Math" : String) ≠ "java/lang/invoke/MethodHandle" ∧ ("java/lang/Math" : String) ≠ "java/lang/invoke/VarHandle" := by decide +kernel
theorem own_pd_206 : parseMethodDescriptor "(II)I" = some ⟨[.int, .int], some .int⟩ := by decide +kernel
theorem own_d_jdk_65_201_34 : decode jdk_65_method_201_code 34 = .ok (.invokestatic 272, 3) := by decide +kernel
theorem own_lm_208 : ("jdk/internal/util/ArraysSupport" : String) ≠ "java/lang/invoke/MethodHandle" ∧ ("jdk/internal/util/ArraysSupport" : String) ≠ "java/lang/invoke/VarHandle" := by decide +kernel
theorem own_pd_209 : parseMethodDescriptor "([B[BI)I" = some ⟨[(.array .byte), (.array .byte), .int], some .int⟩ := by decide +kernel
theorem own_d_jdk_65_201_37 : decode jdk_65_method_201_code 37 = .ok (.istore_n 2, 1) := by decide +kernel
theorem own_d_jdk_65_201_38 : decode jdk_65_method_201_code 38 = .ok (.iload_n 2, 1) := by decide +kernel
theorem own_d_jdk_65_201_39 : decode jdk_65_method_201_code 39 = .ok (.ifCond .lt 13, 3) := by decide +kernel
theorem own_d_jdk_65_201_52 : decode jdk_65_method_201_code 52 = .ok (.aload_n 0, 1) := by decide +kernel
theorem own_d_jdk_65_201_53 : decode jdk_65_method_201_code 53 = .ok (.arraylength, 1) := by decide +kernel
theorem own_d_jdk_65_201_54 : decode jdk_65_method_201_code 54 = .ok (.aload_n 1, 1) := by decide +kernel
theorem own_d_jdk_65_201_55 : decode jdk_65_method_201_code 55 = .ok (.arraylength, 1) := by decide +kernel
theorem own_d_jdk_65_201_56 : decode jdk_65_method_201_code 56 = .ok (.isub, 1) := by decide +kernel
theorem own_d_jdk_65_201_57 : decode jdk_65_method_201_code 57 = .ok (.ireturn, 1) := by decide +kernel
theorem own_pn_219 : plainName "java/util/Arrays" = true := by first | (simp [plainName, overriddenIn]; done) | decide +kernel
theorem own_ef_rmU0_0 (m : MethodId) (a : Addr) (b : Addr)  : entryFrame m #[(.ref a), (.ref b)] 3 = mkF m 0 #[.val (.ref a), .val (.ref b), .unset] [] := by first | (simp [entryFrame, mkF, argsToLocals, Value.category, maxLocals]; done) | rfl
def QrmU0_0 (Z : State) (w0 : Addr) (wl : Addr) (wp : Addr) (mr : Addr) (a : Addr) (b : Addr) (ka : ClassId) (kb : ClassId) (h0 : Heap) (n0 : Nat) (v : Option Value) (h : Heap) (L : List Loc) : Prop := v = some (.int (0 : Int32)) ∧ Fr n0 L ∧ h = h0
set_option maxRecDepth 65536 in
set_option maxHeartbeats 40000000 in
theorem rmU0_0 (l : Launch) (Z : State) (a0 : Array Value) (hw : ∀ d ∈ tables_1, d.before a0 Z = true) (ws : List Jvm.Cond) (w0 : Addr) (wl : Addr) (wp : Addr) (mr : Addr) (hS : own_S Z w0 wl wp mr) (a : Addr) (b : Addr) (ka : ClassId) (kb : ClassId) (h0 : Heap) (n0 : Nat) (O0 : Old Z n0 h0) (V : Arv Z h0 a ka .byte (0 : Int32) [] (.int (0 : Int32))) (U : Arv Z h0 b kb .byte (0 : Int32) [] (.int (0 : Int32))) (ne : a ≠ b) :
    own_Met l (⟨"java/util/Arrays", "compareUnsigned", "([B[B)I"⟩ : MethodName) jdk_65_method_201_code 3 (some .int) ws ({ frames := 1, cells := 0, slots := 0, locals := 15 } : Room) Z h0 #[(.ref a), (.ref b)] (QrmU0_0 Z w0 wl wp mr a b ka kb h0 n0) := by
  refine own_body (plainFor_of_name own_pn_219) ?_
  intro p e s m below meth c s₁ hx hby hml hown hnm hret hlk hZ e0 X0
  have N0 := Fr.nil n0
  refine own_st (fun u_ k_ => castTop (own_ef_rmU0_0 m a b) k_) ?_
  show own_Go p e below _ (s₁.setTop (mkF m 0 #[.val (.ref a), .val (.ref b), .unset] []))
  refine own_st (fun u_ k_ => XS.aloadN X0.here hx rfl (hb hby own_d_jdk_65_201_0) rfl rfl k_) ?_
  show own_Go p e below _ (s₁.setTop (mkF m 1 #[.val (.ref a), .val (.ref b), .unset] [(.ref a)]))
  refine own_st (fun u_ k_ => XS.aloadN X0.here hx rfl (hb hby own_d_jdk_65_201_1) rfl rfl k_) ?_
  show own_Go p e below _ (s₁.setTop (mkF m 2 #[.val (.ref a), .val (.ref b), .unset] [(.ref b), (.ref a)]))
  refine own_st (fun u_ k_ => XT.acmpYes X0.here hx rfl (pc0 := 2) (pc' := 7) rfl (hb hby own_d_jdk_65_201_2) rfl rfl rfl (XT.aa_ne_t (own_rne ne)) (by decide) (by decide) k_) ?_
  show own_Go p e below _ (s₁.setTop (mkF m 7 #[.val (.ref a), .val (.ref b), .unset] []))
  refine own_st (fun u_ k_ => XS.aloadN X0.here hx rfl (hb hby own_d_jdk_65_201_7) rfl rfl k_) ?_
  show own_Go p e below _ (s₁.setTop (mkF m 8 #[.val (.ref a), .val (.ref b), .unset] [(.ref a)]))
  refine own_st (fun u_ k_ => XS.ifnullNo X0.here hx rfl (hb hby own_d_jdk_65_201_8) rfl k_) ?_
  show own_Go p e below _ (s₁.setTop (mkF m 11 #[.val (.ref a), .val (.ref b), .unset] []))
  refine own_st (fun u_ k_ => XS.aloadN X0.here hx rfl (hb hby own_d_jdk_65_201_11) rfl rfl k_) ?_
  show own_Go p e below _ (s₁.setTop (mkF m 12 #[.val (.ref a), .val (.ref b), .unset] [(.ref b)]))
  refine own_st (fun u_ k_ => XS.ifnonnullYes X0.here hx rfl (pc0 := 12) (pc' := 25) rfl (hb hby own_d_jdk_65_201_12) rfl (by decide) (by decide) k_) ?_
  show own_Go p e below _ (s₁.setTop (mkF m 25 #[.val (.ref a), .val (.ref b), .unset] []))
  refine own_st (fun u_ k_ => XS.aloadN X0.here hx rfl (hb hby own_d_jdk_65_201_25) rfl rfl k_) ?_
  show own_Go p e below _ (s₁.setTop (mkF m 26 #[.val (.ref a), .val (.ref b), .unset] [(.ref a)]))
  refine own_st (fun u_ k_ => XS.aloadN X0.here hx rfl (hb hby own_d_jdk_65_201_26) rfl rfl k_) ?_
  show own_Go p e below _ (s₁.setTop (mkF m 27 #[.val (.ref a), .val (.ref b), .unset] [(.ref b), (.ref a)]))
  refine own_st (fun u_ k_ => XS.aloadN X0.here hx rfl (hb hby own_d_jdk_65_201_27) rfl rfl k_) ?_
  show own_Go p e below _ (s₁.setTop (mkF m 28 #[.val (.ref a), .val (.ref b), .unset] [(.ref a), (.ref b), (.ref a)]))
  obtain ⟨cl131, Ar131, -, S131, N131, -, -⟩ := id V
  refine own_st (X0.arraylength hx (by rw [e0]; exact Ar131.1) (State.isArrayOf_alike hZ.alike Ar131.2.1) (g := (mkF m 28 #[.val (.ref a), .val (.ref b), .unset] [(.ref a), (.ref b), (.ref a)])) rfl rfl (hb hby own_d_jdk_65_201_28)) ?_
  rw [len_of S131 N131]
  show own_Go p e below _ (s₁.setTop (mkF m 29 #[.val (.ref a), .val (.ref b), .unset] [(.int (0 : Int32)), (.ref b), (.ref a)]))
  refine own_st (fun u_ k_ => XS.aloadN X0.here hx rfl (hb hby own_d_jdk_65_201_29) rfl rfl k_) ?_
  show own_Go p e below _ (s₁.setTop (mkF m 30 #[.val (.ref a), .val (.ref b), .unset] [(.ref b), (.int (0 : Int32)), (.ref b), (.ref a)]))
  obtain ⟨cl132, Ar132, -, S132, N132, -, -⟩ := id U
  refine own_st (X0.arraylength hx (by rw [e0]; exact Ar132.1) (State.isArrayOf_alike hZ.alike Ar132.2.1) (g := (mkF m 30 #[.val (.ref a), .val (.ref b), .unset] [(.ref b), (.int (0 : Int32)), (.ref b), (.ref a)])) rfl rfl (hb hby own_d_jdk_65_201_30)) ?_
  rw [len_of S132 N132]
  show own_Go p e below _ (s₁.setTop (mkF m 31 #[.val (.ref a), .val (.ref b), .unset] [(.int (0 : Int32)), (.int (0 : Int32)), (.ref b), (.ref a)]))
  obtain ⟨T133, v133, L133, X133, hQ133, st133⟩ := own_callS X0 hx hZ (y := (⟨"java/lang/Math", "min", "(II)I"⟩ : MethodName)) hown (hw _ (List.mem_of_getElem? (i := 103) rfl)) (hw _ (List.mem_of_getElem? (i := 104) rfl)) (hw _ (List.mem_of_getElem? (i := 105) rfl)) (hw _ (List.mem_of_getElem? (i := 106) rfl)) own_lm_205 (rmMin0_0 l Z a0 hw [] w0 wl wp mr hS  h0 n0 O0 ) e0 own_pd_206 (argsL := [(.int (0 : Int32)), (.int (0 : Int32))]) (rest := [(.ref b), (.ref a)]) rfl rfl (g := (mkF m 31 #[.val (.ref a), .val (.ref b), .unset] [(.int (0 : Int32)), (.int (0 : Int32)), (.ref b), (.ref a)])) rfl (by rw [hml]; rfl) rfl (hb hby own_d_jdk_65_201_31) (W := 2) rfl (by decide) (by decide) (by decide) (by decide)
  obtain ⟨rfl, M133, e133⟩ := hQ133
  have N133 := Fr.app N0 M133
  refine own_st (fun u_ k_ => st133 u_ k_) ?_
  show own_Go p e below _ (T133.setTop (mkF m 34 #[.val (.ref a), .val (.ref b), .unset] [(.int (0 : Int32)), (.ref b), (.ref a)]))
  obtain ⟨T134, v134, L134, X134, hQ134, st134⟩ := own_callS X133 hx hZ (y := (⟨"jdk/internal/util/ArraysSupport", "mismatch", "([B[BI)I"⟩ : MethodName)) hown (hw _ (List.mem_of_getElem? (i := 107) rfl)) (hw _ (List.mem_of_getElem? (i := 108) rfl)) (hw _ (List.mem_of_getElem? (i := 109) rfl)) (hw _ (List.mem_of_getElem? (i := 110) rfl)) own_lm_208 (rmMis0_0 l Z a0 hw [] w0 wl wp mr hS a b ka kb h0 n0 O0 V U) e133 own_pd_209 (argsL := [(.ref a), (.ref b), (.int (0 : Int32))]) (rest := []) rfl rfl (g := (mkF m 34 #[.val (.ref a), .val (.ref b), .unset] [(.int (0 : Int32)), (.ref b), (.ref a)])) rfl (by rw [hml]; rfl) rfl (hb hby own_d_jdk_65_201_34) (W := 0) rfl (by decide) (by decide) (by decide) (by decide)
  obtain ⟨rfl, M134, e134⟩ := hQ134
  have N134 := Fr.app N133 M134
  refine own_st (fun u_ k_ => st134 u_ k_) ?_
  show own_Go p e below _ (T134.setTop (mkF m 37 #[.val (.ref a), .val (.ref b), .unset] [(.int (-1 : Int32))]))
  refine own_st (fun u_ k_ => XS.istoreN X134.here hx rfl (hb hby own_d_jdk_65_201_37) rfl (l' := #[.val (.ref a), .val (.ref b), .val (.int (-1 : Int32))]) rfl k_) ?_
  show own_Go p e below _ (T134.setTop (mkF m 38 #[.val (.ref a), .val (.ref b), .val (.int (-1 : Int32))] []))
  refine own_st (fun u_ k_ => XS.iloadN X134.here hx rfl (hb hby own_d_jdk_65_201_38) rfl k_) ?_
  show own_Go p e below _ (T134.setTop (mkF m 39 #[.val (.ref a), .val (.ref b), .val (.int (-1 : Int32))] [(.int (-1 : Int32))]))
  refine own_st (fun u_ k_ => XS.ifYes X134.here hx rfl (pc0 := 39) (pc' := 52) rfl (hb hby own_d_jdk_65_201_39) rfl (XT.i0_lt_t (by decide)) (by decide) (by decide) k_) ?_
  show own_Go p e below _ (T134.setTop (mkF m 52 #[.val (.ref a), .val (.ref b), .val (.int (-1 : Int32))] []))
  refine own_st (fun u_ k_ => XS.aloadN X134.here hx rfl (hb hby own_d_jdk_65_201_52) rfl rfl k_) ?_
  show own_Go p e below _ (T134.setTop (mkF m 53 #[.val (.ref a), .val (.ref b), .val (.int (-1 : Int32))] [(.ref a)]))
  obtain ⟨cl135, Ar135, -, S135, N135, -, -⟩ := id V
  refine own_st (X134.arraylength hx (by rw [e134]; exact Ar135.1) (State.isArrayOf_alike hZ.alike Ar135.2.1) (g := (mkF m 53 #[.val (.ref a), .val (.ref b), .val (.int (-1 : Int32))] [(.ref a)])) rfl rfl (hb hby own_d_jdk_65_201_53)) ?_
  rw [len_of S135 N135]
  show own_Go p e below _ (T134.setTop (mkF m 54 #[.val (.ref a), .val (.ref b), .val (.int (-1 : Int32))] [(.int (0 : Int32))]))
  refine own_st (fun u_ k_ => XS.aloadN X134.here hx rfl (hb hby own_d_jdk_65_201_54) rfl rfl k_) ?_
  show own_Go p e below _ (T134.setTop (mkF m 55 #[.val (.ref a), .val (.ref b), .val (.int (-1 : Int32))] [(.ref b), (.int (0 : Int32))]))
  obtain ⟨cl136, Ar136, -, S136, N136, -, -⟩ := id U
  refine own_st (X134.arraylength hx (by rw [e134]; exact Ar136.1) (State.isArrayOf_alike hZ.alike Ar136.2.1) (g := (mkF m 55 #[.val (.ref a), .val (.ref b), .val (.int (-1 : Int32))] [(.ref b), (.int (0 : Int32))])) rfl rfl (hb hby own_d_jdk_65_201_55)) ?_
  rw [len_of S136 N136]
  show own_Go p e below _ (T134.setTop (mkF m 56 #[.val (.ref a), .val (.ref b), .val (.int (-1 : Int32))] [(.int (0 : Int32)), (.int (0 : Int32))]))
  refine own_st (fun u_ k_ => XS.isub X134.here hx rfl (hb hby own_d_jdk_65_201_56) rfl k_) ?_
  show own_Go p e below _ (T134.setTop (mkF m 57 #[.val (.ref a), .val (.ref b), .val (.int (-1 : Int32))] [(.int (0 : Int32))]))
  exact own_retX X134 hx hlk hret rfl (Or.inl ⟨rfl, by simp, _, rfl⟩) (hb hby own_d_jdk_65_201_57) (by decide) (by decide) (show QrmU0_0 Z w0 wl wp mr a b ka kb h0 n0 (some (.int (0 : Int32))) T134.heap _ from (by rw [e134]; exact ⟨rfl, N134, rfl⟩))
theorem own_d_prog_21_18_0 : decode prog_21_method_18_code 0 = .ok (.aload_n 0, 1) := by decide +kernel
theorem own_d_prog_21_18_1 : decode prog_21_method_18_code 1 = .ok (.getfield 7, 3) := by decide +kernel
theorem own_d_prog_21_18_4 : decode prog_21_method_18_code 4 = .ok (.aload_n 1, 1) := by decide +kernel
theorem own_d_prog_21_18_5 : decode prog_21_method_18_code 5 = .ok (.getfield 7, 3) := by decide +kernel
theorem own_d_prog_21_18_8 : decode prog_21_method_18_code 8 = .ok (.invokevirtual 169, 3) := by decide +kernel
theorem own_lm_225 : ("java/lang/Enum" : String) ≠ "java/lang/invoke/MethodHandle" ∧ ("java/lang/Enum" : String) ≠ "java/lang/invoke/VarHandle" := by decide +kernel
theorem own_pd_226 : parseMethodDescriptor "(Ljava/lang/Enum;)I" = some ⟨[(.object "java/lang/Enum")], some .int⟩ := by decide +kernel
theorem own_d_prog_21_18_11 : decode prog_21_method_18_code 11 = .ok (.istore_n 2, 1) := by decide +kernel
theorem own_d_prog_21_18_12 : decode prog_21_method_18_code 12 = .ok (.iload_n 2, 1) := by decide +kernel
theorem own_d_prog_21_18_13 : decode prog_21_method_18_code 13 = .ok (.ifCond .ne 175, 3) := by decide +kernel
theorem own_d_prog_21_18_16 : decode prog_21_method_18_code 16 = .ok (.aload_n 0, 1) := by decide +kernel
theorem own_d_prog_21_18_17 : decode prog_21_method_18_code 17 = .ok (.getfield 7, 3) := by decide +kernel
theorem own_d_prog_21_18_20 : decode prog_21_method_18_code 20 = .ok (.invokevirtual 173, 3) := by decide +kernel
theorem own_pd_233 : parseMethodDescriptor "()I" = some ⟨[], some .int⟩ := by decide +kernel
theorem own_d_prog_21_18_23 : decode prog_21_method_18_code 23 = .ok (.tableswitch 45 0 7 #[55, 69, 69, 83, 97, 111, 55, 153], 45) := by decide +kernel
theorem own_d_prog_21_18_92 : decode prog_21_method_18_code 92 = .ok (.aload_n 0, 1) := by decide +kernel
theorem own_d_prog_21_18_93 : decode prog_21_method_18_code 93 = .ok (.getfield 21, 3) := by decide +kernel
theorem own_d_prog_21_18_96 : decode prog_21_method_18_code 96 = .ok (.aload_n 1, 1) := by decide +kernel
theorem own_d_prog_21_18_97 : decode prog_21_method_18_code 97 = .ok (.getfield 21, 3) := by decide +kernel
theorem own_d_prog_21_18_100 : decode prog_21_method_18_code 100 = .ok (.invokestatic 185, 3) := by decide +kernel
theorem own_lm_240 : ("java/util/Arrays" : String) ≠ "java/lang/invoke/MethodHandle" ∧ ("java/util/Arrays" : String) ≠ "java/lang/invoke/VarHandle" := by decide +kernel
theorem own_pd_241 : parseMethodDescriptor "([B[B)I" = some ⟨[(.array .byte), (.array .byte)], some .int⟩ := by decide +kernel
theorem own_d_prog_21_18_103 : decode prog_21_method_18_code 103 = .ok (.goto 84, 3) := by decide +kernel
theorem own_d_prog_21_18_187 : decode prog_21_method_18_code 187 = .ok (.istore_n 2, 1) := by decide +kernel
theorem own_d_prog_21_18_188 : decode prog_21_method_18_code 188 = .ok (.iload_n 2, 1) := by decide +kernel
theorem own_d_prog_21_18_189 : decode prog_21_method_18_code 189 = .ok (.ireturn, 1) := by decide +kernel
theorem own_ef_rmV0_0 (m : MethodId) (pp : Addr) (qq : Addr)  : entryFrame m #[(.ref pp), (.ref qq)] 3 = mkF m 0 #[.val (.ref pp), .val (.ref qq), .unset] [] := by first | (simp [entryFrame, mkF, argsToLocals, Value.category, maxLocals]; done) | rfl
def QrmV0_0 (Z : State) (w0 : Addr) (wl : Addr) (wp : Addr) (mr : Addr) (pp : Addr) (qq : Addr) (a : Addr) (b : Addr) (ka : ClassId) (kb : ClassId) (h0 : Heap) (n0 : Nat) (v : Option Value) (h : Heap) (L : List Loc) : Prop := v = some (.int (0 : Int32)) ∧ Fr n0 L ∧ h = h0
set_option maxRecDepth 65536 in
set_option maxHeartbeats 40000000 in
theorem rmV0_0 (l : Launch) (Z : State) (a0 : Array Value) (hw : ∀ d ∈ tables_1, d.before a0 Z = true) (ws : List Jvm.Cond) (w0 : Addr) (wl : Addr) (wp : Addr) (mr : Addr) (hS : own_S Z w0 wl wp mr) (pp : Addr) (qq : Addr) (a : Addr) (b : Addr) (ka : ClassId) (kb : ClassId) (h0 : Heap) (n0 : Nat) (O0 : Old Z n0 h0) (Ep : Exa Z h0 pp "com/example/tasdik/tasdik/core/cbor/CborValue") (Eq : Exa Z h0 qq "com/example/tasdik/tasdik/core/cbor/CborValue") (T1 : Fld Z h0 pp "com/example/tasdik/tasdik/core/cbor/CborValue" "type" "Lcom/example/tasdik/tasdik/core/cbor/CborValue$Type;" (.ref w0)) (T2 : Fld Z h0 qq "com/example/tasdik/tasdik/core/cbor/CborValue" "type" "Lcom/example/tasdik/tasdik/core/cbor/CborValue$Type;" (.ref w0)) (B1 : Fld Z h0 pp "com/example/tasdik/tasdik/core/cbor/CborValue" "bytes" "[B" (.ref a)) (B2 : Fld Z h0 qq "com/example/tasdik/tasdik/core/cbor/CborValue" "bytes" "[B" (.ref b)) (V : Arv Z h0 a ka .byte (0 : Int32) [] (.int (0 : Int32))) (U : Arv Z h0 b kb .byte (0 : Int32) [] (.int (0 : Int32))) (ne : a ≠ b) :
    own_Met l (⟨"com/example/tasdik/tasdik/core/cbor/CborValue", "compare", "(Lcom/example/tasdik/tasdik/core/cbor/CborValue;Lcom/example/tasdik/tasdik/core/cbor/CborValue;)I"⟩ : MethodName) prog_21_method_18_code 3 (some .int) ws ({ frames := 2, cells := 0, slots := 0, locals := 43 } : Room) Z h0 #[(.ref pp), (.ref qq)] (QrmV0_0 Z w0 wl wp mr pp qq a b ka kb h0 n0) := by
  refine own_body (plainFor_of_name own_pn_119) ?_
  intro p e s m below meth c s₁ hx hby hml hown hnm hret hlk hZ e0 X0
  have N0 := Fr.nil n0
  refine own_st (fun u_ k_ => castTop (own_ef_rmV0_0 m pp qq) k_) ?_
  show own_Go p e below _ (s₁.setTop (mkF m 0 #[.val (.ref pp), .val (.ref qq), .unset] []))
  refine own_st (fun u_ k_ => XS.aloadN X0.here hx rfl (hb hby own_d_prog_21_18_0) rfl rfl k_) ?_
  show own_Go p e below _ (s₁.setTop (mkF m 1 #[.val (.ref pp), .val (.ref qq), .unset] [(.ref pp)]))
  obtain ⟨T137, X137, e137, st137⟩ := getF X0 hx hZ hown (host := "") (Or.inl (hw _ (List.mem_of_getElem? (i := 31) rfl))) Via.refl e0 T1 (g := (mkF m 1 #[.val (.ref pp), .val (.ref qq), .unset] [(.ref pp)])) rfl rfl (hb hby own_d_prog_21_18_1)
  refine own_st (fun u_ k_ => st137 u_ k_) ?_
  show own_Go p e below _ (T137.setTop (mkF m 4 #[.val (.ref pp), .val (.ref qq), .unset] [(.ref w0)]))
  refine own_st (fun u_ k_ => XS.aloadN X137.here hx rfl (hb hby own_d_prog_21_18_4) rfl rfl k_) ?_
  show own_Go p e below _ (T137.setTop (mkF m 5 #[.val (.ref pp), .val (.ref qq), .unset] [(.ref qq), (.ref w0)]))
  obtain ⟨T138, X138, e138, st138⟩ := getF X137 hx hZ hown (host := "") (Or.inl (hw _ (List.mem_of_getElem? (i := 31) rfl))) Via.refl e137 T2 (g := (mkF m 5 #[.val (.ref pp), .val (.ref qq), .unset] [(.ref qq), (.ref w0)])) rfl rfl (hb hby own_d_prog_21_18_5)
  refine own_st (fun u_ k_ => st138 u_ k_) ?_
  show own_Go p e below _ (T138.setTop (mkF m 8 #[.val (.ref pp), .val (.ref qq), .unset] [(.ref w0), (.ref w0)]))
  have F139 : Exa Z h0 w0 "com/example/tasdik/tasdik/core/cbor/CborValue$Type" := Exa.ext O0.2 hS.2.1
  have F140 : Fld Z h0 w0 "java/lang/Enum" "ordinal" "I" (.int (1 : Int32)) := Fld.ext O0.2 hS.2.2.1
  obtain ⟨T141, v141, L141, X141, hQ141, st141⟩ := own_callU X138 hx hZ (y := (⟨"com/example/tasdik/tasdik/core/cbor/CborValue$Type", "compareTo", "(Ljava/lang/Enum;)I"⟩ : MethodName)) (z := (⟨"java/lang/Enum", "compareTo", "(Ljava/lang/Enum;)I"⟩ : MethodName)) hown (hw _ (List.mem_of_getElem? (i := 78) rfl)) (hw _ (List.mem_of_getElem? (i := 79) rfl)) (hw _ (List.mem_of_getElem? (i := 80) rfl)) (hw _ (List.mem_of_getElem? (i := 82) rfl)) (hw _ (List.mem_of_getElem? (i := 81) rfl)) (hw _ (List.mem_of_getElem? (i := 83) rfl)) (hw _ (List.mem_of_getElem? (i := 84) rfl)) own_lm_225 (rmC l Z a0 hw [] w0 wl wp mr hS w0 (1 : Int32) h0 n0 O0 F139 F140) e138 F139 own_pd_226 (argsL := [(.ref w0)]) (rest := []) rfl rfl (g := (mkF m 8 #[.val (.ref pp), .val (.ref qq), .unset] [(.ref w0), (.ref w0)])) rfl (by rw [hml]; rfl) rfl (hb hby own_d_prog_21_18_8) (W := 0) rfl (by decide) (by decide) (by decide) (by decide)
  obtain ⟨rfl, M141, e141⟩ := hQ141
  have N141 := Fr.app N0 M141
  refine own_st (fun u_ k_ => st141 u_ k_) ?_
  show own_Go p e below _ (T141.setTop (mkF m 11 #[.val (.ref pp), .val (.ref qq), .unset] [(.int ((1 : Int32) - (1 : Int32)))]))
  refine own_st (fun u_ k_ => XS.istoreN X141.here hx rfl (hb hby own_d_prog_21_18_11) rfl (l' := #[.val (.ref pp), .val (.ref qq), .val (.int ((1 : Int32) - (1 : Int32)))]) rfl k_) ?_
  show own_Go p e below _ (T141.setTop (mkF m 12 #[.val (.ref pp), .val (.ref qq), .val (.int ((1 : Int32) - (1 : Int32)))] []))
  refine own_st (fun u_ k_ => XS.iloadN X141.here hx rfl (hb hby own_d_prog_21_18_12) rfl k_) ?_
  show own_Go p e below _ (T141.setTop (mkF m 13 #[.val (.ref pp), .val (.ref qq), .val (.int ((1 : Int32) - (1 : Int32)))] [(.int ((1 : Int32) - (1 : Int32)))]))
  refine own_st (fun u_ k_ => XS.ifNo X141.here hx rfl (hb hby own_d_prog_21_18_13) rfl (XT.i0_ne_f (by decide)) k_) ?_
  show own_Go p e below _ (T141.setTop (mkF m 16 #[.val (.ref pp), .val (.ref qq), .val (.int ((1 : Int32) - (1 : Int32)))] []))
  refine own_st (fun u_ k_ => XS.aloadN X141.here hx rfl (hb hby own_d_prog_21_18_16) rfl rfl k_) ?_
  show own_Go p e below _ (T141.setTop (mkF m 17 #[.val (.ref pp), .val (.ref qq), .val (.int ((1 : Int32) - (1 : Int32)))] [(.ref pp)]))
  obtain ⟨T142, X142, e142, st142⟩ := getF X141 hx hZ hown (host := "") (Or.inl (hw _ (List.mem_of_getElem? (i := 31) rfl))) Via.refl e141 T1 (g := (mkF m 17 #[.val (.ref pp), .val (.ref qq), .val (.int ((1 : Int32) - (1 : Int32)))] [(.ref pp)])) rfl rfl (hb hby own_d_prog_21_18_17)
  refine own_st (fun u_ k_ => st142 u_ k_) ?_
  show own_Go p e below _ (T142.setTop (mkF m 20 #[.val (.ref pp), .val (.ref qq), .val (.int ((1 : Int32) - (1 : Int32)))] [(.ref w0)]))
  obtain ⟨T143, v143, L143, X143, hQ143, st143⟩ := own_callU X142 hx hZ (y := (⟨"com/example/tasdik/tasdik/core/cbor/CborValue$Type", "ordinal", "()I"⟩ : MethodName)) (z := (⟨"java/lang/Enum", "ordinal", "()I"⟩ : MethodName)) hown (hw _ (List.mem_of_getElem? (i := 93) rfl)) (hw _ (List.mem_of_getElem? (i := 94) rfl)) (hw _ (List.mem_of_getElem? (i := 95) rfl)) (hw _ (List.mem_of_getElem? (i := 97) rfl)) (hw _ (List.mem_of_getElem? (i := 96) rfl)) (hw _ (List.mem_of_getElem? (i := 83) rfl)) (hw _ (List.mem_of_getElem? (i := 98) rfl)) own_lm_225 (rmO l Z a0 hw [] w0 wl wp mr hS w0 (1 : Int32) h0 n0 O0 F140) e142 F139 own_pd_233 (argsL := []) (rest := []) rfl rfl (g := (mkF m 20 #[.val (.ref pp), .val (.ref qq), .val (.int ((1 : Int32) - (1 : Int32)))] [(.ref w0)])) rfl (by rw [hml]; rfl) rfl (hb hby own_d_prog_21_18_20) (W := 0) rfl (by decide) (by decide) (by decide) (by decide)
  obtain ⟨rfl, M143, e143⟩ := hQ143
  have N143 := Fr.app N141 M143
  refine own_st (fun u_ k_ => st143 u_ k_) ?_
  show own_Go p e below _ (T143.setTop (mkF m 23 #[.val (.ref pp), .val (.ref qq), .val (.int ((1 : Int32) - (1 : Int32)))] [(.int (1 : Int32))]))
  refine own_st (fun u_ k_ => XS.tswIn X143.here hx rfl (pc0 := 23) (pc' := 92) (o := 69) rfl (hb hby own_d_prog_21_18_23) rfl (by decide) (by decide) (by decide) (by decide) k_) ?_
  show own_Go p e below _ (T143.setTop (mkF m 92 #[.val (.ref pp), .val (.ref qq), .val (.int ((1 : Int32) - (1 : Int32)))] []))
  refine own_st (fun u_ k_ => XS.aloadN X143.here hx rfl (hb hby own_d_prog_21_18_92) rfl rfl k_) ?_
  show own_Go p e below _ (T143.setTop (mkF m 93 #[.val (.ref pp), .val (.ref qq), .val (.int ((1 : Int32) - (1 : Int32)))] [(.ref pp)]))
  obtain ⟨T144, X144, e144, st144⟩ := getF X143 hx hZ hown (host := "") (Or.inl (hw _ (List.mem_of_getElem? (i := 37) rfl))) Via.refl e143 B1 (g := (mkF m 93 #[.val (.ref pp), .val (.ref qq), .val (.int ((1 : Int32) - (1 : Int32)))] [(.ref pp)])) rfl rfl (hb hby own_d_prog_21_18_93)
  refine own_st (fun u_ k_ => st144 u_ k_) ?_
  show own_Go p e below _ (T144.setTop (mkF m 96 #[.val (.ref pp), .val (.ref qq), .val (.int ((1 : Int32) - (1 : Int32)))] [(.ref a)]))
  refine own_st (fun u_ k_ => XS.aloadN X144.here hx rfl (hb hby own_d_prog_21_18_96) rfl rfl k_) ?_
  show own_Go p e below _ (T144.setTop (mkF m 97 #[.val (.ref pp), .val (.ref qq), .val (.int ((1 : Int32) - (1 : Int32)))] [(.ref qq), (.ref a)]))
  obtain ⟨T145, X145, e145, st145⟩ := getF X144 hx hZ hown (host := "") (Or.inl (hw _ (List.mem_of_getElem? (i := 37) rfl))) Via.refl e144 B2 (g := (mkF m 97 #[.val (.ref pp), .val (.ref qq), .val (.int ((1 : Int32) - (1 : Int32)))] [(.ref qq), (.ref a)])) rfl rfl (hb hby own_d_prog_21_18_97)
  refine own_st (fun u_ k_ => st145 u_ k_) ?_
  show own_Go p e below _ (T145.setTop (mkF m 100 #[.val (.ref pp), .val (.ref qq), .val (.int ((1 : Int32) - (1 : Int32)))] [(.ref b), (.ref a)]))
  obtain ⟨T146, v146, L146, X146, hQ146, st146⟩ := own_callS X145 hx hZ (y := (⟨"java/util/Arrays", "compareUnsigned", "([B[B)I"⟩ : MethodName)) hown (hw _ (List.mem_of_getElem? (i := 99) rfl)) (hw _ (List.mem_of_getElem? (i := 100) rfl)) (hw _ (List.mem_of_getElem? (i := 101) rfl)) (hw _ (List.mem_of_getElem? (i := 102) rfl)) own_lm_240 (rmU0_0 l Z a0 hw [] w0 wl wp mr hS a b ka kb h0 n0 O0 V U ne) e145 own_pd_241 (argsL := [(.ref a), (.ref b)]) (rest := []) rfl rfl (g := (mkF m 100 #[.val (.ref pp), .val (.ref qq), .val (.int ((1 : Int32) - (1 : Int32)))] [(.ref b), (.ref a)])) rfl (by rw [hml]; rfl) rfl (hb hby own_d_prog_21_18_100) (W := 0) rfl (by decide) (by decide) (by decide) (by decide)
  obtain ⟨rfl, M146, e146⟩ := hQ146
  have N146 := Fr.app N143 M146
  refine own_st (fun u_ k_ => st146 u_ k_) ?_
  show own_Go p e below _ (T146.setTop (mkF m 103 #[.val (.ref pp), .val (.ref qq), .val (.int ((1 : Int32) - (1 : Int32)))] [(.int (0 : Int32))]))
  refine own_st (fun u_ k_ => XS.goto X146.here hx rfl (pc0 := 103) (pc' := 187) rfl (hb hby own_d_prog_21_18_103) (by decide) (by decide) k_) ?_
  show own_Go p e below _ (T146.setTop (mkF m 187 #[.val (.ref pp), .val (.ref qq), .val (.int ((1 : Int32) - (1 : Int32)))] [(.int (0 : Int32))]))
  refine own_st (fun u_ k_ => XS.istoreN X146.here hx rfl (hb hby own_d_prog_21_18_187) rfl (l' := #[.val (.ref pp), .val (.ref qq), .val (.int (0 : Int32))]) rfl k_) ?_
  show own_Go p e below _ (T146.setTop (mkF m 188 #[.val (.ref pp), .val (.ref qq), .val (.int (0 : Int32))] []))
  refine own_st (fun u_ k_ => XS.iloadN X146.here hx rfl (hb hby own_d_prog_21_18_188) rfl k_) ?_
  show own_Go p e below _ (T146.setTop (mkF m 189 #[.val (.ref pp), .val (.ref qq), .val (.int (0 : Int32))] [(.int (0 : Int32))]))
  exact own_retX X146 hx hlk hret rfl (Or.inl ⟨rfl, by simp, _, rfl⟩) (hb hby own_d_prog_21_18_189) (by decide) (by decide) (show QrmV0_0 Z w0 wl wp mr pp qq a b ka kb h0 n0 (some (.int (0 : Int32))) T146.heap _ from (by rw [e146]; exact ⟨rfl, N146, rfl⟩))
theorem own_d_prog_21_16_0 : decode prog_21_method_16_code 0 = .ok (.aload_n 1, 1) := by decide +kernel
theorem own_d_prog_21_16_1 : decode prog_21_method_16_code 1 = .ok (.instanceof 8, 3) := by decide +kernel
theorem own_d_prog_21_16_4 : decode prog_21_method_16_code 4 = .ok (.ifCond .eq 20, 3) := by decide +kernel
theorem own_d_prog_21_16_7 : decode prog_21_method_16_code 7 = .ok (.aload_n 1, 1) := by decide +kernel
theorem own_d_prog_21_16_8 : decode prog_21_method_16_code 8 = .ok (.checkcast 8, 3) := by decide +kernel
theorem own_d_prog_21_16_11 : decode prog_21_method_16_code 11 = .ok (.astore_n 2, 1) := by decide +kernel
theorem own_d_prog_21_16_12 : decode prog_21_method_16_code 12 = .ok (.aload_n 0, 1) := by decide +kernel
theorem own_d_prog_21_16_13 : decode prog_21_method_16_code 13 = .ok (.aload_n 2, 1) := by decide +kernel
theorem own_d_prog_21_16_14 : decode prog_21_method_16_code 14 = .ok (.invokestatic 137, 3) := by decide +kernel
theorem own_pd_255 : parseMethodDescriptor "(Lcom/example/tasdik/tasdik/core/cbor/CborValue;Lcom/example/tasdik/tasdik/core/cbor/CborValue;)I" = some ⟨[(.object "com/example/tasdik/tasdik/core/cbor/CborValue"), (.object "com/example/tasdik/tasdik/core/cbor/CborValue")], some .int⟩ := by decide +kernel
theorem own_d_prog_21_16_17 : decode prog_21_method_16_code 17 = .ok (.ifCond .ne 7, 3) := by decide +kernel
theorem own_d_prog_21_16_20 : decode prog_21_method_16_code 20 = .ok (.iconst 1, 1) := by decide +kernel
theorem own_d_prog_21_16_21 : decode prog_21_method_16_code 21 = .ok (.goto 4, 3) := by decide +kernel
theorem own_d_prog_21_16_25 : decode prog_21_method_16_code 25 = .ok (.ireturn, 1) := by decide +kernel
theorem own_ef_rmE0_0 (m : MethodId) (pp : Addr) (qq : Addr)  : entryFrame m #[(.ref pp), (.ref qq)] 3 = mkF m 0 #[.val (.ref pp), .val (.ref qq), .unset] [] := by first | (simp [entryFrame, mkF, argsToLocals, Value.category, maxLocals]; done) | rfl
def QrmE0_0 (Z : State) (w0 : Addr) (wl : Addr) (wp : Addr) (mr : Addr) (pp : Addr) (qq : Addr) (a : Addr) (b : Addr) (ka : ClassId) (kb : ClassId) (h0 : Heap) (n0 : Nat) (v : Option Value) (h : Heap) (L : List Loc) : Prop := v = some (.int (1 : Int32)) ∧ Fr n0 L ∧ h = h0
set_option maxRecDepth 65536 in
set_option maxHeartbeats 40000000 in
theorem rmE0_0 (l : Launch) (Z : State) (a0 : Array Value) (hw : ∀ d ∈ tables_1, d.before a0 Z = true) (ws : List Jvm.Cond) (w0 : Addr) (wl : Addr) (wp : Addr) (mr : Addr) (hS : own_S Z w0 wl wp mr) (pp : Addr) (qq : Addr) (a : Addr) (b : Addr) (ka : ClassId) (kb : ClassId) (h0 : Heap) (n0 : Nat) (O0 : Old Z n0 h0) (Ep : Exa Z h0 pp "com/example/tasdik/tasdik/core/cbor/CborValue") (Eq : Exa Z h0 qq "com/example/tasdik/tasdik/core/cbor/CborValue") (T1 : Fld Z h0 pp "com/example/tasdik/tasdik/core/cbor/CborValue" "type" "Lcom/example/tasdik/tasdik/core/cbor/CborValue$Type;" (.ref w0)) (T2 : Fld Z h0 qq "com/example/tasdik/tasdik/core/cbor/CborValue" "type" "Lcom/example/tasdik/tasdik/core/cbor/CborValue$Type;" (.ref w0)) (B1 : Fld Z h0 pp "com/example/tasdik/tasdik/core/cbor/CborValue" "bytes" "[B" (.ref a)) (B2 : Fld Z h0 qq "com/example/tasdik/tasdik/core/cbor/CborValue" "bytes" "[B" (.ref b)) (V : Arv Z h0 a ka .byte (0 : Int32) [] (.int (0 : Int32))) (U : Arv Z h0 b kb .byte (0 : Int32) [] (.int (0 : Int32))) (ne : a ≠ b) :
    own_Met l (⟨"com/example/tasdik/tasdik/core/cbor/CborValue", "equals", "(Ljava/lang/Object;)Z"⟩ : MethodName) prog_21_method_16_code 3 (some .boolean) ws ({ frames := 3, cells := 0, slots := 0, locals := 57 } : Room) Z h0 #[(.ref pp), (.ref qq)] (QrmE0_0 Z w0 wl wp mr pp qq a b ka kb h0 n0) := by
  refine own_body (plainFor_of_name own_pn_119) ?_
  intro p e s m below meth c s₁ hx hby hml hown hnm hret hlk hZ e0 X0
  have N0 := Fr.nil n0
  refine own_st (fun u_ k_ => castTop (own_ef_rmE0_0 m pp qq) k_) ?_
  show own_Go p e below _ (s₁.setTop (mkF m 0 #[.val (.ref pp), .val (.ref qq), .unset] []))
  refine own_st (fun u_ k_ => XS.aloadN X0.here hx rfl (hb hby own_d_prog_21_16_0) rfl rfl k_) ?_
  show own_Go p e below _ (s₁.setTop (mkF m 1 #[.val (.ref pp), .val (.ref qq), .unset] [(.ref qq)]))
  obtain ⟨T147, X147, e147, st147⟩ := instY X0 hx hZ hown (hw _ (List.mem_of_getElem? (i := 9) rfl)) e0 (Ins.self Eq) (g := (mkF m 1 #[.val (.ref pp), .val (.ref qq), .unset] [(.ref qq)])) rfl rfl (hb hby own_d_prog_21_16_1)
  refine own_st (fun u_ k_ => st147 u_ k_) ?_
  show own_Go p e below _ (T147.setTop (mkF m 4 #[.val (.ref pp), .val (.ref qq), .unset] [(.int (1 : Int32))]))
  refine own_st (fun u_ k_ => XS.ifNo X147.here hx rfl (hb hby own_d_prog_21_16_4) rfl (XT.i0_eq_f (by decide)) k_) ?_
  show own_Go p e below _ (T147.setTop (mkF m 7 #[.val (.ref pp), .val (.ref qq), .unset] []))
  refine own_st (fun u_ k_ => XS.aloadN X147.here hx rfl (hb hby own_d_prog_21_16_7) rfl rfl k_) ?_
  show own_Go p e below _ (T147.setTop (mkF m 8 #[.val (.ref pp), .val (.ref qq), .unset] [(.ref qq)]))
  obtain ⟨T148, X148, e148, st148⟩ := castY X147 hx hZ hown (hw _ (List.mem_of_getElem? (i := 9) rfl)) e147 (Ins.self Eq) (g := (mkF m 8 #[.val (.ref pp), .val (.ref qq), .unset] [(.ref qq)])) rfl rfl (hb hby own_d_prog_21_16_8)
  refine own_st (fun u_ k_ => st148 u_ k_) ?_
  show own_Go p e below _ (T148.setTop (mkF m 11 #[.val (.ref pp), .val (.ref qq), .unset] [(.ref qq)]))
  refine own_st (fun u_ k_ => XS.astoreN X148.here hx rfl (hb hby own_d_prog_21_16_11) rfl rfl (l' := #[.val (.ref pp), .val (.ref qq), .val (.ref qq)]) rfl k_) ?_
  show own_Go p e below _ (T148.setTop (mkF m 12 #[.val (.ref pp), .val (.ref qq), .val (.ref qq)] []))
  refine own_st (fun u_ k_ => XS.aloadN X148.here hx rfl (hb hby own_d_prog_21_16_12) rfl rfl k_) ?_
  show own_Go p e below _ (T148.setTop (mkF m 13 #[.val (.ref pp), .val (.ref qq), .val (.ref qq)] [(.ref pp)]))
  refine own_st (fun u_ k_ => XS.aloadN X148.here hx rfl (hb hby own_d_prog_21_16_13) rfl rfl k_) ?_
  show own_Go p e below _ (T148.setTop (mkF m 14 #[.val (.ref pp), .val (.ref qq), .val (.ref qq)] [(.ref qq), (.ref pp)]))
  obtain ⟨T149, v149, L149, X149, hQ149, st149⟩ := own_callS X148 hx hZ (y := (⟨"com/example/tasdik/tasdik/core/cbor/CborValue", "compare", "(Lcom/example/tasdik/tasdik/core/cbor/CborValue;Lcom/example/tasdik/tasdik/core/cbor/CborValue;)I"⟩ : MethodName)) hown (hw _ (List.mem_of_getElem? (i := 75) rfl)) (hw _ (List.mem_of_getElem? (i := 76) rfl)) (hw _ (List.mem_of_getElem? (i := 7) rfl)) (hw _ (List.mem_of_getElem? (i := 77) rfl)) own_lm_134 (rmV0_0 l Z a0 hw [] w0 wl wp mr hS pp qq a b ka kb h0 n0 O0 Ep Eq T1 T2 B1 B2 V U ne) e148 own_pd_255 (argsL := [(.ref pp), (.ref qq)]) (rest := []) rfl rfl (g := (mkF m 14 #[.val (.ref pp), .val (.ref qq), .val (.ref qq)] [(.ref qq), (.ref pp)])) rfl (by rw [hml]; rfl) rfl (hb hby own_d_prog_21_16_14) (W := 0) rfl (by decide) (by decide) (by decide) (by decide)
  obtain ⟨rfl, M149, e149⟩ := hQ149
  have N149 := Fr.app N0 M149
  refine own_st (fun u_ k_ => st149 u_ k_) ?_
  show own_Go p e below _ (T149.setTop (mkF m 17 #[.val (.ref pp), .val (.ref qq), .val (.ref qq)] [(.int (0 : Int32))]))
  refine own_st (fun u_ k_ => XS.ifNo X149.here hx rfl (hb hby own_d_prog_21_16_17) rfl (XT.i0_ne_f (by decide)) k_) ?_
  show own_Go p e below _ (T149.setTop (mkF m 20 #[.val (.ref pp), .val (.ref qq), .val (.ref qq)] []))
  refine own_st (fun u_ k_ => XS.iconst X149.here hx rfl (hb hby own_d_prog_21_16_20) k_) ?_
  show own_Go p e below _ (T149.setTop (mkF m 21 #[.val (.ref pp), .val (.ref qq), .val (.ref qq)] [(.int (1 : Int32))]))
  refine own_st (fun u_ k_ => XS.goto X149.here hx rfl (pc0 := 21) (pc' := 25) rfl (hb hby own_d_prog_21_16_21) (by decide) (by decide) k_) ?_
  show own_Go p e below _ (T149.setTop (mkF m 25 #[.val (.ref pp), .val (.ref qq), .val (.ref qq)] [(.int (1 : Int32))]))
  exact own_retX X149 hx hlk hret rfl (Or.inl ⟨rfl, by simp, _, rfl⟩) (hb hby own_d_prog_21_16_25) (by decide) (by decide) (show QrmE0_0 Z w0 wl wp mr pp qq a b ka kb h0 n0 (some (.int (1 : Int32))) T149.heap _ from (by rw [e149]; exact ⟨rfl, N149, rfl⟩))
theorem own_ef_rmMin1_1 (m : MethodId)   : entryFrame m #[(.int (1 : Int32)), (.int (1 : Int32))] 2 = mkF m 0 #[.val (.int (1 : Int32)), .val (.int (1 : Int32))] [] := by first | (simp [entryFrame, mkF, argsToLocals, Value.category, maxLocals]; done) | rfl
def QrmMin1_1 (Z : State) (w0 : Addr) (wl : Addr) (wp : Addr) (mr : Addr)  (h0 : Heap) (n0 : Nat) (v : Option Value) (h : Heap) (L : List Loc) : Prop := v = some (.int (1 : Int32)) ∧ Fr n0 L ∧ h = h0
set_option maxRecDepth 65536 in
set_option maxHeartbeats 40000000 in
theorem rmMin1_1 (l : Launch) (Z : State) (a0 : Array Value) (hw : ∀ d ∈ tables_1, d.before a0 Z = true) (ws : List Jvm.Cond) (w0 : Addr) (wl : Addr) (wp : Addr) (mr : Addr) (hS : own_S Z w0 wl wp mr)  (h0 : Heap) (n0 : Nat) (O0 : Old Z n0 h0)  :
    own_Met l (⟨"java/lang/Math", "min", "(II)I"⟩ : MethodName) jdk_29_method_69_code 2 (some .int) ws ({ frames := 0, cells := 0, slots := 0, locals := 0 } : Room) Z h0 #[(.int (1 : Int32)), (.int (1 : Int32))] (QrmMin1_1 Z w0 wl wp mr  h0 n0) := by
  refine own_body own_pf_179 ?_
  intro p e s m below meth c s₁ hx hby hml hown hnm hret hlk hZ e0 X0
  have N0 := Fr.nil n0
  refine own_st (fun u_ k_ => castTop (own_ef_rmMin1_1 m ) k_) ?_
  show own_Go p e below _ (s₁.setTop (mkF m 0 #[.val (.int (1 : Int32)), .val (.int (1 : Int32))] []))
  refine own_st (fun u_ k_ => XS.iloadN X0.here hx rfl (hb hby own_d_jdk_29_69_0) rfl k_) ?_
  show own_Go p e below _ (s₁.setTop (mkF m 1 #[.val (.int (1 : Int32)), .val (.int (1 : Int32))] [(.int (1 : Int32))]))
  refine own_st (fun u_ k_ => XS.iloadN X0.here hx rfl (hb hby own_d_jdk_29_69_1) rfl k_) ?_
  show own_Go p e below _ (s₁.setTop (mkF m 2 #[.val (.int (1 : Int32)), .val (.int (1 : Int32))] [(.int (1 : Int32)), (.int (1 : Int32))]))
  refine own_st (fun u_ k_ => XS.icmpNo X0.here hx rfl (hb hby own_d_jdk_29_69_2) rfl (XT.ii_gt_f (by decide)) k_) ?_
  show own_Go p e below _ (s₁.setTop (mkF m 5 #[.val (.int (1 : Int32)), .val (.int (1 : Int32))] []))
  refine own_st (fun u_ k_ => XS.iloadN X0.here hx rfl (hb hby own_d_jdk_29_69_5) rfl k_) ?_
  show own_Go p e below _ (s₁.setTop (mkF m 6 #[.val (.int (1 : Int32)), .val (.int (1 : Int32))] [(.int (1 : Int32))]))
  refine own_st (fun u_ k_ => XS.goto X0.here hx rfl (pc0 := 6) (pc' := 10) rfl (hb hby own_d_jdk_29_69_6) (by decide) (by decide) k_) ?_
  show own_Go p e below _ (s₁.setTop (mkF m 10 #[.val (.int (1 : Int32)), .val (.int (1 : Int32))] [(.int (1 : Int32))]))
  exact own_retX X0 hx hlk hret rfl (Or.inl ⟨rfl, by simp, _, rfl⟩) (hb hby own_d_jdk_29_69_10) (by decide) (by decide) (show QrmMin1_1 Z w0 wl wp mr  h0 n0 (some (.int (1 : Int32))) s₁.heap _ from (by rw [e0]; exact ⟨rfl, N0, rfl⟩))
theorem own_d_jdk_48_13_54 : decode jdk_48_method_13_code 54 = .ok (.aload_n 0, 1) := by decide +kernel
theorem own_d_jdk_48_13_55 : decode jdk_48_method_13_code 55 = .ok (.iload_n 3, 1) := by decide +kernel
theorem own_d_jdk_48_13_56 : decode jdk_48_method_13_code 56 = .ok (.baload, 1) := by decide +kernel
theorem own_d_jdk_48_13_57 : decode jdk_48_method_13_code 57 = .ok (.aload_n 1, 1) := by decide +kernel
theorem own_d_jdk_48_13_58 : decode jdk_48_method_13_code 58 = .ok (.iload_n 3, 1) := by decide +kernel
theorem own_d_jdk_48_13_59 : decode jdk_48_method_13_code 59 = .ok (.baload, 1) := by decide +kernel
theorem own_d_jdk_48_13_60 : decode jdk_48_method_13_code 60 = .ok (.if_icmp .eq 5, 3) := by decide +kernel
theorem own_d_jdk_48_13_65 : decode jdk_48_method_13_code 65 = .ok (.iinc 3 1, 3) := by decide +kernel
theorem own_d_jdk_48_13_68 : decode jdk_48_method_13_code 68 = .ok (.goto (-19), 3) := by decide +kernel
theorem own_ef_rmMis1_1 (m : MethodId) (a : Addr) (b : Addr)  : entryFrame m #[(.ref a), (.ref b), (.int (1 : Int32))] 4 = mkF m 0 #[.val (.ref a), .val (.ref b), .val (.int (1 : Int32)), .unset] [] := by first | (simp [entryFrame, mkF, argsToLocals, Value.category, maxLocals]; done) | rfl
def QrmMis1_1 (Z : State) (w0 : Addr) (wl : Addr) (wp : Addr) (mr : Addr) (a : Addr) (b : Addr) (ka : ClassId) (kb : ClassId) (v0 : Int32) (h0 : Heap) (n0 : Nat) (v : Option Value) (h : Heap) (L : List Loc) : Prop := v = some (.int (-1 : Int32)) ∧ Fr n0 L ∧ h = h0
set_option maxRecDepth 65536 in
set_option maxHeartbeats 40000000 in
theorem rmMis1_1 (l : Launch) (Z : State) (a0 : Array Value) (hw : ∀ d ∈ tables_1, d.before a0 Z = true) (ws : List Jvm.Cond) (w0 : Addr) (wl : Addr) (wp : Addr) (mr : Addr) (hS : own_S Z w0 wl wp mr) (a : Addr) (b : Addr) (ka : ClassId) (kb : ClassId) (v0 : Int32) (h0 : Heap) (n0 : Nat) (O0 : Old Z n0 h0) (V : Arv Z h0 a ka .byte (1 : Int32) [(.int v0)] (.int (0 : Int32))) (U : Arv Z h0 b kb .byte (1 : Int32) [(.int v0)] (.int (0 : Int32))) :
    own_Met l (⟨"jdk/internal/util/ArraysSupport", "mismatch", "([B[BI)I"⟩ : MethodName) jdk_48_method_13_code 4 (some .int) ws ({ frames := 0, cells := 0, slots := 0, locals := 0 } : Room) Z h0 #[(.ref a), (.ref b), (.int (1 : Int32))] (QrmMis1_1 Z w0 wl wp mr a b ka kb v0 h0 n0) := by
  refine own_body (plainFor_of_name own_pn_190) ?_
  intro p e s m below meth c s₁ hx hby hml hown hnm hret hlk hZ e0 X0
  have N0 := Fr.nil n0
  refine own_st (fun u_ k_ => castTop (own_ef_rmMis1_1 m a b) k_) ?_
  show own_Go p e below _ (s₁.setTop (mkF m 0 #[.val (.ref a), .val (.ref b), .val (.int (1 : Int32)), .unset] []))
  refine own_st (fun u_ k_ => XS.iconst X0.here hx rfl (hb hby own_d_jdk_48_13_0) k_) ?_
  show own_Go p e below _ (s₁.setTop (mkF m 1 #[.val (.ref a), .val (.ref b), .val (.int (1 : Int32)), .unset] [(.int (0 : Int32))]))
  refine own_st (fun u_ k_ => XS.istoreN X0.here hx rfl (hb hby own_d_jdk_48_13_1) rfl (l' := #[.val (.ref a), .val (.ref b), .val (.int (1 : Int32)), .val (.int (0 : Int32))]) rfl k_) ?_
  show own_Go p e below _ (s₁.setTop (mkF m 2 #[.val (.ref a), .val (.ref b), .val (.int (1 : Int32)), .val (.int (0 : Int32))] []))
  refine own_st (fun u_ k_ => XS.iloadN X0.here hx rfl (hb hby own_d_jdk_48_13_2) rfl k_) ?_
  show own_Go p e below _ (s₁.setTop (mkF m 3 #[.val (.ref a), .val (.ref b), .val (.int (1 : Int32)), .val (.int (0 : Int32))] [(.int (1 : Int32))]))
  refine own_st (fun u_ k_ => XS.bipush X0.here hx rfl (hb hby own_d_jdk_48_13_3) k_) ?_
  show own_Go p e below _ (s₁.setTop (mkF m 5 #[.val (.ref a), .val (.ref b), .val (.int (1 : Int32)), .val (.int (0 : Int32))] [(.int (7 : Int32)), (.int (1 : Int32))]))
  refine own_st (fun u_ k_ => XS.icmpYes X0.here hx rfl (pc0 := 5) (pc' := 49) rfl (hb hby own_d_jdk_48_13_5) rfl (XT.ii_le_t (by decide)) (by decide) (by decide) k_) ?_
  show own_Go p e below _ (s₁.setTop (mkF m 49 #[.val (.ref a), .val (.ref b), .val (.int (1 : Int32)), .val (.int (0 : Int32))] []))
  refine own_st (fun u_ k_ => XS.iloadN X0.here hx rfl (hb hby own_d_jdk_48_13_49) rfl k_) ?_
  show own_Go p e below _ (s₁.setTop (mkF m 50 #[.val (.ref a), .val (.ref b), .val (.int (1 : Int32)), .val (.int (0 : Int32))] [(.int (0 : Int32))]))
  refine own_st (fun u_ k_ => XS.iloadN X0.here hx rfl (hb hby own_d_jdk_48_13_50) rfl k_) ?_
  show own_Go p e below _ (s₁.setTop (mkF m 51 #[.val (.ref a), .val (.ref b), .val (.int (1 : Int32)), .val (.int (0 : Int32))] [(.int (1 : Int32)), (.int (0 : Int32))]))
  refine own_st (fun u_ k_ => XS.icmpNo X0.here hx rfl (hb hby own_d_jdk_48_13_51) rfl (XT.ii_ge_f (by decide)) k_) ?_
  show own_Go p e below _ (s₁.setTop (mkF m 54 #[.val (.ref a), .val (.ref b), .val (.int (1 : Int32)), .val (.int (0 : Int32))] []))
  refine own_st (fun u_ k_ => XS.aloadN X0.here hx rfl (hb hby own_d_jdk_48_13_54) rfl rfl k_) ?_
  show own_Go p e below _ (s₁.setTop (mkF m 55 #[.val (.ref a), .val (.ref b), .val (.int (1 : Int32)), .val (.int (0 : Int32))] [(.ref a)]))
  refine own_st (fun u_ k_ => XS.iloadN X0.here hx rfl (hb hby own_d_jdk_48_13_55) rfl k_) ?_
  show own_Go p e below _ (s₁.setTop (mkF m 56 #[.val (.ref a), .val (.ref b), .val (.int (1 : Int32)), .val (.int (0 : Int32))] [(.int (0 : Int32)), (.ref a)]))
  obtain ⟨cl150, Ar150, q150, S150, N150, H150, G150⟩ := id V
  have hi150 : ¬ ((0 : Int32) < 0 ∨ cl150.slots.size ≤ ((0 : Int32)).toNatClampNeg) := inb_of S150 ⟨by decide, by decide⟩
  have ha150 : cl150.slots[((0 : Int32)).toNatClampNeg]? = some (.int v0) := H150.at hi150 rfl
  refine own_st (X0.baloadBytes hx (j := (0 : Int32)) (v := (.int v0)) (by rw [e0]; exact Ar150.1) (State.isArrayOf_alike hZ.alike Ar150.2.1) Ar150.2.2 hi150 ha150 (g := (mkF m 56 #[.val (.ref a), .val (.ref b), .val (.int (1 : Int32)), .val (.int (0 : Int32))] [(.int (0 : Int32)), (.ref a)])) rfl rfl (hb hby own_d_jdk_48_13_56)) ?_
  show own_Go p e below _ (s₁.setTop (mkF m 57 #[.val (.ref a), .val (.ref b), .val (.int (1 : Int32)), .val (.int (0 : Int32))] [(.int v0)]))
  refine own_st (fun u_ k_ => XS.aloadN X0.here hx rfl (hb hby own_d_jdk_48_13_57) rfl rfl k_) ?_
  show own_Go p e below _ (s₁.setTop (mkF m 58 #[.val (.ref a), .val (.ref b), .val (.int (1 : Int32)), .val (.int (0 : Int32))] [(.ref b), (.int v0)]))
  refine own_st (fun u_ k_ => XS.iloadN X0.here hx rfl (hb hby own_d_jdk_48_13_58) rfl k_) ?_
  show own_Go p e below _ (s₁.setTop (mkF m 59 #[.val (.ref a), .val (.ref b), .val (.int (1 : Int32)), .val (.int (0 : Int32))] [(.int (0 : Int32)), (.ref b), (.int v0)]))
  obtain ⟨cl151, Ar151, q151, S151, N151, H151, G151⟩ := id U
  have hi151 : ¬ ((0 : Int32) < 0 ∨ cl151.slots.size ≤ ((0 : Int32)).toNatClampNeg) := inb_of S151 ⟨by decide, by decide⟩
  have ha151 : cl151.slots[((0 : Int32)).toNatClampNeg]? = some (.int v0) := H151.at hi151 rfl
  refine own_st (X0.baloadBytes hx (j := (0 : Int32)) (v := (.int v0)) (by rw [e0]; exact Ar151.1) (State.isArrayOf_alike hZ.alike Ar151.2.1) Ar151.2.2 hi151 ha151 (g := (mkF m 59 #[.val (.ref a), .val (.ref b), .val (.int (1 : Int32)), .val (.int (0 : Int32))] [(.int (0 : Int32)), (.ref b), (.int v0)])) rfl rfl (hb hby own_d_jdk_48_13_59)) ?_
  show own_Go p e below _ (s₁.setTop (mkF m 60 #[.val (.ref a), .val (.ref b), .val (.int (1 : Int32)), .val (.int (0 : Int32))] [(.int v0), (.int v0)]))
  refine own_st (fun u_ k_ => XS.icmpYes X0.here hx rfl (pc0 := 60) (pc' := 65) rfl (hb hby own_d_jdk_48_13_60) rfl (XT.ii_eq_t rfl) (by decide) (by decide) k_) ?_
  show own_Go p e below _ (s₁.setTop (mkF m 65 #[.val (.ref a), .val (.ref b), .val (.int (1 : Int32)), .val (.int (0 : Int32))] []))
  refine own_st (fun u_ k_ => XS.iinc X0.here hx rfl (hb hby own_d_jdk_48_13_65) rfl (l' := #[.val (.ref a), .val (.ref b), .val (.int (1 : Int32)), .val (.int (1 : Int32))]) rfl k_) ?_
  show own_Go p e below _ (s₁.setTop (mkF m 68 #[.val (.ref a), .val (.ref b), .val (.int (1 : Int32)), .val (.int (1 : Int32))] []))
  refine own_st (fun u_ k_ => XS.goto X0.here hx rfl (pc0 := 68) (pc' := 49) rfl (hb hby own_d_jdk_48_13_68) (by decide) (by decide) k_) ?_
  show own_Go p e below _ (s₁.setTop (mkF m 49 #[.val (.ref a), .val (.ref b), .val (.int (1 : Int32)), .val (.int (1 : Int32))] []))
  refine own_st (fun u_ k_ => XS.iloadN X0.here hx rfl (hb hby own_d_jdk_48_13_49) rfl k_) ?_
  show own_Go p e below _ (s₁.setTop (mkF m 50 #[.val (.ref a), .val (.ref b), .val (.int (1 : Int32)), .val (.int (1 : Int32))] [(.int (1 : Int32))]))
  refine own_st (fun u_ k_ => XS.iloadN X0.here hx rfl (hb hby own_d_jdk_48_13_50) rfl k_) ?_
  show own_Go p e below _ (s₁.setTop (mkF m 51 #[.val (.ref a), .val (.ref b), .val (.int (1 : Int32)), .val (.int (1 : Int32))] [(.int (1 : Int32)), (.int (1 : Int32))]))
  refine own_st (fun u_ k_ => XS.icmpYes X0.here hx rfl (pc0 := 51) (pc' := 71) rfl (hb hby own_d_jdk_48_13_51) rfl (XT.ii_ge_t (by decide)) (by decide) (by decide) k_) ?_
  show own_Go p e below _ (s₁.setTop (mkF m 71 #[.val (.ref a), .val (.ref b), .val (.int (1 : Int32)), .val (.int (1 : Int32))] []))
  refine own_st (fun u_ k_ => XS.iconst X0.here hx rfl (hb hby own_d_jdk_48_13_71) k_) ?_
  show own_Go p e below _ (s₁.setTop (mkF m 72 #[.val (.ref a), .val (.ref b), .val (.int (1 : Int32)), .val (.int (1 : Int32))] [(.int (-1 : Int32))]))
  exact own_retX X0 hx hlk hret rfl (Or.inl ⟨rfl, by simp, _, rfl⟩) (hb hby own_d_jdk_48_13_72) (by decide) (by decide) (show QrmMis1_1 Z w0 wl wp mr a b ka kb v0 h0 n0 (some (.int (-1 : Int32))) s₁.heap _ from (by rw [e0]; exact ⟨rfl, N0, rfl⟩))
theorem own_ef_rmU1_1 (m : MethodId) (a : Addr) (b : Addr)  : entryFrame m #[(.ref a), (.ref b)] 3 = mkF m 0 #[.val (.ref a), .val (.ref b), .unset] [] := by first | (simp [entryFrame, mkF, argsToLocals, Value.category, maxLocals]; done) | rfl
def QrmU1_1 (Z : State) (w0 : Addr) (wl : Addr) (wp : Addr) (mr : Addr) (a : Addr) (b : Addr) (ka : ClassId) (kb : ClassId) (v0 : Int32) (h0 : Heap) (n0 : Nat) (v : Option Value) (h : Heap) (L : List Loc) : Prop := v = some (.int (0 : Int32)) ∧ Fr n0 L ∧ h = h0
set_option maxRecDepth 65536 in
set_option maxHeartbeats 40000000 in
theorem rmU1_1 (l : Launch) (Z : State) (a0 : Array Value) (hw : ∀ d ∈ tables_1, d.before a0 Z = true) (ws : List Jvm.Cond) (w0 : Addr) (wl : Addr) (wp : Addr) (mr : Addr) (hS : own_S Z w0 wl wp mr) (a : Addr) (b : Addr) (ka : ClassId) (kb : ClassId) (v0 : Int32) (h0 : Heap) (n0 : Nat) (O0 : Old Z n0 h0) (V : Arv Z h0 a ka .byte (1 : Int32) [(.int v0)] (.int (0 : Int32))) (U : Arv Z h0 b kb .byte (1 : Int32) [(.int v0)] (.int (0 : Int32))) (ne : a ≠ b) :
    own_Met l (⟨"java/util/Arrays", "compareUnsigned", "([B[B)I"⟩ : MethodName) jdk_65_method_201_code 3 (some .int) ws ({ frames := 1, cells := 0, slots := 0, locals := 15 } : Room) Z h0 #[(.ref a), (.ref b)] (QrmU1_1 Z w0 wl wp mr a b ka kb v0 h0 n0) := by
  refine own_body (plainFor_of_name own_pn_219) ?_
  intro p e s m below meth c s₁ hx hby hml hown hnm hret hlk hZ e0 X0
  have N0 := Fr.nil n0
  refine own_st (fun u_ k_ => castTop (own_ef_rmU1_1 m a b) k_) ?_
  show own_Go p e below _ (s₁.setTop (mkF m 0 #[.val (.ref a), .val (.ref b), .unset] []))
  refine own_st (fun u_ k_ => XS.aloadN X0.here hx rfl (hb hby own_d_jdk_65_201_0) rfl rfl k_) ?_
  show own_Go p e below _ (s₁.setTop (mkF m 1 #[.val (.ref a), .val (.ref b), .unset] [(.ref a)]))
  refine own_st (fun u_ k_ => XS.aloadN X0.here hx rfl (hb hby own_d_jdk_65_201_1) rfl rfl k_) ?_
  show own_Go p e below _ (s₁.setTop (mkF m 2 #[.val (.ref a), .val (.ref b), .unset] [(.ref b), (.ref a)]))
  refine own_st (fun u_ k_ => XT.acmpYes X0.here hx rfl (pc0 := 2) (pc' := 7) rfl (hb hby own_d_jdk_65_201_2) rfl rfl rfl (XT.aa_ne_t (own_rne ne)) (by decide) (by decide) k_) ?_
  show own_Go p e below _ (s₁.setTop (mkF m 7 #[.val (.ref a), .val (.ref b), .unset] []))
  refine own_st (fun u_ k_ => XS.aloadN X0.here hx rfl (hb hby own_d_jdk_65_201_7) rfl rfl k_) ?_
  show own_Go p e below _ (s₁.setTop (mkF m 8 #[.val (.ref a), .val (.ref b), .unset] [(.ref a)]))
  refine own_st (fun u_ k_ => XS.ifnullNo X0.here hx rfl (hb hby own_d_jdk_65_201_8) rfl k_) ?_
  show own_Go p e below _ (s₁.setTop (mkF m 11 #[.val (.ref a), .val (.ref b), .unset] []))
  refine own_st (fun u_ k_ => XS.aloadN X0.here hx rfl (hb hby own_d_jdk_65_201_11) rfl rfl k_) ?_
  show own_Go p e below _ (s₁.setTop (mkF m 12 #[.val (.ref a), .val (.ref b), .unset] [(.ref b)]))
  refine own_st (fun u_ k_ => XS.ifnonnullYes X0.here hx rfl (pc0 := 12) (pc' := 25) rfl (hb hby own_d_jdk_65_201_12) rfl (by decide) (by decide) k_) ?_
  show own_Go p e below _ (s₁.setTop (mkF m 25 #[.val (.ref a), .val (.ref b), .unset] []))
  refine own_st (fun u_ k_ => XS.aloadN X0.here hx rfl (hb hby own_d_jdk_65_201_25) rfl rfl k_) ?_
  show own_Go p e below _ (s₁.setTop (mkF m 26 #[.val (.ref a), .val (.ref b), .unset] [(.ref a)]))
  refine own_st (fun u_ k_ => XS.aloadN X0.here hx rfl (hb hby own_d_jdk_65_201_26) rfl rfl k_) ?_
  show own_Go p e below _ (s₁.setTop (mkF m 27 #[.val (.ref a), .val (.ref b), .unset] [(.ref b), (.ref a)]))
  refine own_st (fun u_ k_ => XS.aloadN X0.here hx rfl (hb hby own_d_jdk_65_201_27) rfl rfl k_) ?_
  show own_Go p e below _ (s₁.setTop (mkF m 28 #[.val (.ref a), .val (.ref b), .unset] [(.ref a), (.ref b), (.ref a)]))
  obtain ⟨cl152, Ar152, -, S152, N152, -, -⟩ := id V
  refine own_st (X0.arraylength hx (by rw [e0]; exact Ar152.1) (State.isArrayOf_alike hZ.alike Ar152.2.1) (g := (mkF m 28 #[.val (.ref a), .val (.ref b), .unset] [(.ref a), (.ref b), (.ref a)])) rfl rfl (hb hby own_d_jdk_65_201_28)) ?_
  rw [len_of S152 N152]
  show own_Go p e below _ (s₁.setTop (mkF m 29 #[.val (.ref a), .val (.ref b), .unset] [(.int (1 : Int32)), (.ref b), (.ref a)]))
  refine own_st (fun u_ k_ => XS.aloadN X0.here hx rfl (hb hby own_d_jdk_65_201_29) rfl rfl k_) ?_
  show own_Go p e below _ (s₁.setTop (mkF m 30 #[.val (.ref a), .val (.ref b), .unset] [(.ref b), (.int (1 : Int32)), (.ref b), (.ref a)]))
  obtain ⟨cl153, Ar153, -, S153, N153, -, -⟩ := id U
  refine own_st (X0.arraylength hx (by rw [e0]; exact Ar153.1) (State.isArrayOf_alike hZ.alike Ar153.2.1) (g := (mkF m 30 #[.val (.ref a), .val (.ref b), .unset] [(.ref b), (.int (1 : Int32)), (.ref b), (.ref a)])) rfl rfl (hb hby own_d_jdk_65_201_30)) ?_
  rw [len_of S153 N153]
  show own_Go p e below _ (s₁.setTop (mkF m 31 #[.val (.ref a), .val (.ref b), .unset] [(.int (1 : Int32)), (.int (1 : Int32)), (.ref b), (.ref a)]))
  obtain ⟨T154, v154, L154, X154, hQ154, st154⟩ := own_callS X0 hx hZ (y := (⟨"java/lang/Math", "min", "(II)I"⟩ : MethodName)) hown (hw _ (List.mem_of_getElem? (i := 103) rfl)) (hw _ (List.mem_of_getElem? (i := 104) rfl)) (hw _ (List.mem_of_getElem? (i := 105) rfl)) (hw _ (List.mem_of_getElem? (i := 106) rfl)) own_lm_205 (rmMin1_1 l Z a0 hw [] w0 wl wp mr hS  h0 n0 O0 ) e0 own_pd_206 (argsL := [(.int (1 : Int32)), (.int (1 : Int32))]) (rest := [(.ref b), (.ref a)]) rfl rfl (g := (mkF m 31 #[.val (.ref a), .val (.ref b), .unset] [(.int (1 : Int32)), (.int (1 : Int32)), (.ref b), (.ref a)])) rfl (by rw [hml]; rfl) rfl (hb hby own_d_jdk_65_201_31) (W := 2) rfl (by decide) (by decide) (by decide) (by decide)
  obtain ⟨rfl, M154, e154⟩ := hQ154
  have N154 := Fr.app N0 M154
  refine own_st (fun u_ k_ => st154 u_ k_) ?_
  show own_Go p e below _ (T154.setTop (mkF m 34 #[.val (.ref a), .val (.ref b), .unset] [(.int (1 : Int32)), (.ref b), (.ref a)]))
  obtain ⟨T155, v155, L155, X155, hQ155, st155⟩ := own_callS X154 hx hZ (y := (⟨"jdk/internal/util/ArraysSupport", "mismatch", "([B[BI)I"⟩ : MethodName)) hown (hw _ (List.mem_of_getElem? (i := 107) rfl)) (hw _ (List.mem_of_getElem? (i := 108) rfl)) (hw _ (List.mem_of_getElem? (i := 109) rfl)) (hw _ (List.mem_of_getElem? (i := 110) rfl)) own_lm_208 (rmMis1_1 l Z a0 hw [] w0 wl wp mr hS a b ka kb v0 h0 n0 O0 V U) e154 own_pd_209 (argsL := [(.ref a), (.ref b), (.int (1 : Int32))]) (rest := []) rfl rfl (g := (mkF m 34 #[.val (.ref a), .val (.ref b), .unset] [(.int (1 : Int32)), (.ref b), (.ref a)])) rfl (by rw [hml]; rfl) rfl (hb hby own_d_jdk_65_201_34) (W := 0) rfl (by decide) (by decide) (by decide) (by decide)
  obtain ⟨rfl, M155, e155⟩ := hQ155
  have N155 := Fr.app N154 M155
  refine own_st (fun u_ k_ => st155 u_ k_) ?_
  show own_Go p e below _ (T155.setTop (mkF m 37 #[.val (.ref a), .val (.ref b), .unset] [(.int (-1 : Int32))]))
  refine own_st (fun u_ k_ => XS.istoreN X155.here hx rfl (hb hby own_d_jdk_65_201_37) rfl (l' := #[.val (.ref a), .val (.ref b), .val (.int (-1 : Int32))]) rfl k_) ?_
  show own_Go p e below _ (T155.setTop (mkF m 38 #[.val (.ref a), .val (.ref b), .val (.int (-1 : Int32))] []))
  refine own_st (fun u_ k_ => XS.iloadN X155.here hx rfl (hb hby own_d_jdk_65_201_38) rfl k_) ?_
  show own_Go p e below _ (T155.setTop (mkF m 39 #[.val (.ref a), .val (.ref b), .val (.int (-1 : Int32))] [(.int (-1 : Int32))]))
  refine own_st (fun u_ k_ => XS.ifYes X155.here hx rfl (pc0 := 39) (pc' := 52) rfl (hb hby own_d_jdk_65_201_39) rfl (XT.i0_lt_t (by decide)) (by decide) (by decide) k_) ?_
  show own_Go p e below _ (T155.setTop (mkF m 52 #[.val (.ref a), .val (.ref b), .val (.int (-1 : Int32))] []))
  refine own_st (fun u_ k_ => XS.aloadN X155.here hx rfl (hb hby own_d_jdk_65_201_52) rfl rfl k_) ?_
  show own_Go p e below _ (T155.setTop (mkF m 53 #[.val (.ref a), .val (.ref b), .val (.int (-1 : Int32))] [(.ref a)]))
  obtain ⟨cl156, Ar156, -, S156, N156, -, -⟩ := id V
  refine own_st (X155.arraylength hx (by rw [e155]; exact Ar156.1) (State.isArrayOf_alike hZ.alike Ar156.2.1) (g := (mkF m 53 #[.val (.ref a), .val (.ref b), .val (.int (-1 : Int32))] [(.ref a)])) rfl rfl (hb hby own_d_jdk_65_201_53)) ?_
  rw [len_of S156 N156]
  show own_Go p e below _ (T155.setTop (mkF m 54 #[.val (.ref a), .val (.ref b), .val (.int (-1 : Int32))] [(.int (1 : Int32))]))
  refine own_st (fun u_ k_ => XS.aloadN X155.here hx rfl (hb hby own_d_jdk_65_201_54) rfl rfl k_) ?_
  show own_Go p e below _ (T155.setTop (mkF m 55 #[.val (.ref a), .val (.ref b), .val (.int (-1 : Int32))] [(.ref b), (.int (1 : Int32))]))
  obtain ⟨cl157, Ar157, -, S157, N157, -, -⟩ := id U
  refine own_st (X155.arraylength hx (by rw [e155]; exact Ar157.1) (State.isArrayOf_alike hZ.alike Ar157.2.1) (g := (mkF m 55 #[.val (.ref a), .val (.ref b), .val (.int (-1 : Int32))] [(.ref b), (.int (1 : Int32))])) rfl rfl (hb hby own_d_jdk_65_201_55)) ?_
  rw [len_of S157 N157]
  show own_Go p e below _ (T155.setTop (mkF m 56 #[.val (.ref a), .val (.ref b), .val (.int (-1 : Int32))] [(.int (1 : Int32)), (.int (1 : Int32))]))
  refine own_st (fun u_ k_ => XS.isub X155.here hx rfl (hb hby own_d_jdk_65_201_56) rfl k_) ?_
  show own_Go p e below _ (T155.setTop (mkF m 57 #[.val (.ref a), .val (.ref b), .val (.int (-1 : Int32))] [(.int (0 : Int32))]))
  exact own_retX X155 hx hlk hret rfl (Or.inl ⟨rfl, by simp, _, rfl⟩) (hb hby own_d_jdk_65_201_57) (by decide) (by decide) (show QrmU1_1 Z w0 wl wp mr a b ka kb v0 h0 n0 (some (.int (0 : Int32))) T155.heap _ from (by rw [e155]; exact ⟨rfl, N155, rfl⟩))
theorem own_ef_rmV1_1 (m : MethodId) (pp : Addr) (qq : Addr)  : entryFrame m #[(.ref pp), (.ref qq)] 3 = mkF m 0 #[.val (.ref pp), .val (.ref qq), .unset] [] := by first | (simp [entryFrame, mkF, argsToLocals, Value.category, maxLocals]; done) | rfl
def QrmV1_1 (Z : State) (w0 : Addr) (wl : Addr) (wp : Addr) (mr : Addr) (pp : Addr) (qq : Addr) (a : Addr) (b : Addr) (ka : ClassId) (kb : ClassId) (v0 : Int32) (h0 : Heap) (n0 : Nat) (v : Option Value) (h : Heap) (L : List Loc) : Prop := v = some (.int (0 : Int32)) ∧ Fr n0 L ∧ h = h0
set_option maxRecDepth 65536 in
set_option maxHeartbeats 40000000 in
theorem rmV1_1 (l : Launch) (Z : State) (a0 : Array Value) (hw : ∀ d ∈ tables_1, d.before a0 Z = true) (ws : List Jvm.Cond) (w0 : Addr) (wl : Addr) (wp : Addr) (mr : Addr) (hS : own_S Z w0 wl wp mr) (pp : Addr) (qq : Addr) (a : Addr) (b : Addr) (ka : ClassId) (kb : ClassId) (v0 : Int32) (h0 : Heap) (n0 : Nat) (O0 : Old Z n0 h0) (Ep : Exa Z h0 pp "com/example/tasdik/tasdik/core/cbor/CborValue") (Eq : Exa Z h0 qq "com/example/tasdik/tasdik/core/cbor/CborValue") (T1 : Fld Z h0 pp "com/example/tasdik/tasdik/core/cbor/CborValue" "type" "Lcom/example/tasdik/tasdik/core/cbor/CborValue$Type;" (.ref w0)) (T2 : Fld Z h0 qq "com/example/tasdik/tasdik/core/cbor/CborValue" "type" "Lcom/example/tasdik/tasdik/core/cbor/CborValue$Type;" (.ref w0)) (B1 : Fld Z h0 pp "com/example/tasdik/tasdik/core/cbor/CborValue" "bytes" "[B" (.ref a)) (B2 : Fld Z h0 qq "com/example/tasdik/tasdik/core/cbor/CborValue" "bytes" "[B" (.ref b)) (V : Arv Z h0 a ka .byte (1 : Int32) [(.int v0)] (.int (0 : Int32))) (U : Arv Z h0 b kb .byte (1 : Int32) [(.int v0)] (.int (0 : Int32))) (ne : a ≠ b) :
    own_Met l (⟨"com/example/tasdik/tasdik/core/cbor/CborValue", "compare", "(Lcom/example/tasdik/tasdik/core/cbor/CborValue;Lcom/example/tasdik/tasdik/core/cbor/CborValue;)I"⟩ : MethodName) prog_21_method_18_code 3 (some .int) ws ({ frames := 2, cells := 0, slots := 0, locals := 43 } : Room) Z h0 #[(.ref pp), (.ref qq)] (QrmV1_1 Z w0 wl wp mr pp qq a b ka kb v0 h0 n0) := by
  refine own_body (plainFor_of_name own_pn_119) ?_
  intro p e s m below meth c s₁ hx hby hml hown hnm hret hlk hZ e0 X0
  have N0 := Fr.nil n0
  refine own_st (fun u_ k_ => castTop (own_ef_rmV1_1 m pp qq) k_) ?_
  show own_Go p e below _ (s₁.setTop (mkF m 0 #[.val (.ref pp), .val (.ref qq), .unset] []))
  refine own_st (fun u_ k_ => XS.aloadN X0.here hx rfl (hb hby own_d_prog_21_18_0) rfl rfl k_) ?_
  show own_Go p e below _ (s₁.setTop (mkF m 1 #[.val (.ref pp), .val (.ref qq), .unset] [(.ref pp)]))
  obtain ⟨T158, X158, e158, st158⟩ := getF X0 hx hZ hown (host := "") (Or.inl (hw _ (List.mem_of_getElem? (i := 31) rfl))) Via.refl e0 T1 (g := (mkF m 1 #[.val (.ref pp), .val (.ref qq), .unset] [(.ref pp)])) rfl rfl (hb hby own_d_prog_21_18_1)
  refine own_st (fun u_ k_ => st158 u_ k_) ?_
  show own_Go p e below _ (T158.setTop (mkF m 4 #[.val (.ref pp), .val (.ref qq), .unset] [(.ref w0)]))
  refine own_st (fun u_ k_ => XS.aloadN X158.here hx rfl (hb hby own_d_prog_21_18_4) rfl rfl k_) ?_
  show own_Go p e below _ (T158.setTop (mkF m 5 #[.val (.ref pp), .val (.ref qq), .unset] [(.ref qq), (.ref w0)]))
  obtain ⟨T159, X159, e159, st159⟩ := getF X158 hx hZ hown (host := "") (Or.inl (hw _ (List.mem_of_getElem? (i := 31) rfl))) Via.refl e158 T2 (g := (mkF m 5 #[.val (.ref pp), .val (.ref qq), .unset] [(.ref qq), (.ref w0)])) rfl rfl (hb hby own_d_prog_21_18_5)
  refine own_st (fun u_ k_ => st159 u_ k_) ?_
  show own_Go p e below _ (T159.setTop (mkF m 8 #[.val (.ref pp), .val (.ref qq), .unset] [(.ref w0), (.ref w0)]))
  have F160 : Exa Z h0 w0 "com/example/tasdik/tasdik/core/cbor/CborValue$Type" := Exa.ext O0.2 hS.2.1
  have F161 : Fld Z h0 w0 "java/lang/Enum" "ordinal" "I" (.int (1 : Int32)) := Fld.ext O0.2 hS.2.2.1
  obtain ⟨T162, v162, L162, X162, hQ162, st162⟩ := own_callU X159 hx hZ (y := (⟨"com/example/tasdik/tasdik/core/cbor/CborValue$Type", "compareTo", "(Ljava/lang/Enum;)I"⟩ : MethodName)) (z := (⟨"java/lang/Enum", "compareTo", "(Ljava/lang/Enum;)I"⟩ : MethodName)) hown (hw _ (List.mem_of_getElem? (i := 78) rfl)) (hw _ (List.mem_of_getElem? (i := 79) rfl)) (hw _ (List.mem_of_getElem? (i := 80) rfl)) (hw _ (List.mem_of_getElem? (i := 82) rfl)) (hw _ (List.mem_of_getElem? (i := 81) rfl)) (hw _ (List.mem_of_getElem? (i := 83) rfl)) (hw _ (List.mem_of_getElem? (i := 84) rfl)) own_lm_225 (rmC l Z a0 hw [] w0 wl wp mr hS w0 (1 : Int32) h0 n0 O0 F160 F161) e159 F160 own_pd_226 (argsL := [(.ref w0)]) (rest := []) rfl rfl (g := (mkF m 8 #[.val (.ref pp), .val (.ref qq), .unset] [(.ref w0), (.ref w0)])) rfl (by rw [hml]; rfl) rfl (hb hby own_d_prog_21_18_8) (W := 0) rfl (by decide) (by decide) (by decide) (by decide)
  obtain ⟨rfl, M162, e162⟩ := hQ162
  have N162 := Fr.app N0 M162
  refine own_st (fun u_ k_ => st162 u_ k_) ?_
  show own_Go p e below _ (T162.setTop (mkF m 11 #[.val (.ref pp), .val (.ref qq), .unset] [(.int ((1 : Int32) - (1 : Int32)))]))
  refine own_st (fun u_ k_ => XS.istoreN X162.here hx rfl (hb hby own_d_prog_21_18_11) rfl (l' := #[.val (.ref pp), .val (.ref qq), .val (.int ((1 : Int32) - (1 : Int32)))]) rfl k_) ?_
  show own_Go p e below _ (T162.setTop (mkF m 12 #[.val (.ref pp), .val (.ref qq), .val (.int ((1 : Int32) - (1 : Int32)))] []))
  refine own_st (fun u_ k_ => XS.iloadN X162.here hx rfl (hb hby own_d_prog_21_18_12) rfl k_) ?_
  show own_Go p e below _ (T162.setTop (mkF m 13 #[.val (.ref pp), .val (.ref qq), .val (.int ((1 : Int32) - (1 : Int32)))] [(.int ((1 : Int32) - (1 : Int32)))]))
  refine own_st (fun u_ k_ => XS.ifNo X162.here hx rfl (hb hby own_d_prog_21_18_13) rfl (XT.i0_ne_f (by decide)) k_) ?_
  show own_Go p e below _ (T162.setTop (mkF m 16 #[.val (.ref pp), .val (.ref qq), .val (.int ((1 : Int32) - (1 : Int32)))] []))
  refine own_st (fun u_ k_ => XS.aloadN X162.here hx rfl (hb hby own_d_prog_21_18_16) rfl rfl k_) ?_
  show own_Go p e below _ (T162.setTop (mkF m 17 #[.val (.ref pp), .val (.ref qq), .val (.int ((1 : Int32) - (1 : Int32)))] [(.ref pp)]))
  obtain ⟨T163, X163, e163, st163⟩ := getF X162 hx hZ hown (host := "") (Or.inl (hw _ (List.mem_of_getElem? (i := 31) rfl))) Via.refl e162 T1 (g := (mkF m 17 #[.val (.ref pp), .val (.ref qq), .val (.int ((1 : Int32) - (1 : Int32)))] [(.ref pp)])) rfl rfl (hb hby own_d_prog_21_18_17)
  refine own_st (fun u_ k_ => st163 u_ k_) ?_
  show own_Go p e below _ (T163.setTop (mkF m 20 #[.val (.ref pp), .val (.ref qq), .val (.int ((1 : Int32) - (1 : Int32)))] [(.ref w0)]))
  obtain ⟨T164, v164, L164, X164, hQ164, st164⟩ := own_callU X163 hx hZ (y := (⟨"com/example/tasdik/tasdik/core/cbor/CborValue$Type", "ordinal", "()I"⟩ : MethodName)) (z := (⟨"java/lang/Enum", "ordinal", "()I"⟩ : MethodName)) hown (hw _ (List.mem_of_getElem? (i := 93) rfl)) (hw _ (List.mem_of_getElem? (i := 94) rfl)) (hw _ (List.mem_of_getElem? (i := 95) rfl)) (hw _ (List.mem_of_getElem? (i := 97) rfl)) (hw _ (List.mem_of_getElem? (i := 96) rfl)) (hw _ (List.mem_of_getElem? (i := 83) rfl)) (hw _ (List.mem_of_getElem? (i := 98) rfl)) own_lm_225 (rmO l Z a0 hw [] w0 wl wp mr hS w0 (1 : Int32) h0 n0 O0 F161) e163 F160 own_pd_233 (argsL := []) (rest := []) rfl rfl (g := (mkF m 20 #[.val (.ref pp), .val (.ref qq), .val (.int ((1 : Int32) - (1 : Int32)))] [(.ref w0)])) rfl (by rw [hml]; rfl) rfl (hb hby own_d_prog_21_18_20) (W := 0) rfl (by decide) (by decide) (by decide) (by decide)
  obtain ⟨rfl, M164, e164⟩ := hQ164
  have N164 := Fr.app N162 M164
  refine own_st (fun u_ k_ => st164 u_ k_) ?_
  show own_Go p e below _ (T164.setTop (mkF m 23 #[.val (.ref pp), .val (.ref qq), .val (.int ((1 : Int32) - (1 : Int32)))] [(.int (1 : Int32))]))
  refine own_st (fun u_ k_ => XS.tswIn X164.here hx rfl (pc0 := 23) (pc' := 92) (o := 69) rfl (hb hby own_d_prog_21_18_23) rfl (by decide) (by decide) (by decide) (by decide) k_) ?_
  show own_Go p e below _ (T164.setTop (mkF m 92 #[.val (.ref pp), .val (.ref qq), .val (.int ((1 : Int32) - (1 : Int32)))] []))
  refine own_st (fun u_ k_ => XS.aloadN X164.here hx rfl (hb hby own_d_prog_21_18_92) rfl rfl k_) ?_
  show own_Go p e below _ (T164.setTop (mkF m 93 #[.val (.ref pp), .val (.ref qq), .val (.int ((1 : Int32) - (1 : Int32)))] [(.ref pp)]))
  obtain ⟨T165, X165, e165, st165⟩ := getF X164 hx hZ hown (host := "") (Or.inl (hw _ (List.mem_of_getElem? (i := 37) rfl))) Via.refl e164 B1 (g := (mkF m 93 #[.val (.ref pp), .val (.ref qq), .val (.int ((1 : Int32) - (1 : Int32)))] [(.ref pp)])) rfl rfl (hb hby own_d_prog_21_18_93)
  refine own_st (fun u_ k_ => st165 u_ k_) ?_
  show own_Go p e below _ (T165.setTop (mkF m 96 #[.val (.ref pp), .val (.ref qq), .val (.int ((1 : Int32) - (1 : Int32)))] [(.ref a)]))
  refine own_st (fun u_ k_ => XS.aloadN X165.here hx rfl (hb hby own_d_prog_21_18_96) rfl rfl k_) ?_
  show own_Go p e below _ (T165.setTop (mkF m 97 #[.val (.ref pp), .val (.ref qq), .val (.int ((1 : Int32) - (1 : Int32)))] [(.ref qq), (.ref a)]))
  obtain ⟨T166, X166, e166, st166⟩ := getF X165 hx hZ hown (host := "") (Or.inl (hw _ (List.mem_of_getElem? (i := 37) rfl))) Via.refl e165 B2 (g := (mkF m 97 #[.val (.ref pp), .val (.ref qq), .val (.int ((1 : Int32) - (1 : Int32)))] [(.ref qq), (.ref a)])) rfl rfl (hb hby own_d_prog_21_18_97)
  refine own_st (fun u_ k_ => st166 u_ k_) ?_
  show own_Go p e below _ (T166.setTop (mkF m 100 #[.val (.ref pp), .val (.ref qq), .val (.int ((1 : Int32) - (1 : Int32)))] [(.ref b), (.ref a)]))
  obtain ⟨T167, v167, L167, X167, hQ167, st167⟩ := own_callS X166 hx hZ (y := (⟨"java/util/Arrays", "compareUnsigned", "([B[B)I"⟩ : MethodName)) hown (hw _ (List.mem_of_getElem? (i := 99) rfl)) (hw _ (List.mem_of_getElem? (i := 100) rfl)) (hw _ (List.mem_of_getElem? (i := 101) rfl)) (hw _ (List.mem_of_getElem? (i := 102) rfl)) own_lm_240 (rmU1_1 l Z a0 hw [] w0 wl wp mr hS a b ka kb v0 h0 n0 O0 V U ne) e166 own_pd_241 (argsL := [(.ref a), (.ref b)]) (rest := []) rfl rfl (g := (mkF m 100 #[.val (.ref pp), .val (.ref qq), .val (.int ((1 : Int32) - (1 : Int32)))] [(.ref b), (.ref a)])) rfl (by rw [hml]; rfl) rfl (hb hby own_d_prog_21_18_100) (W := 0) rfl (by decide) (by decide) (by decide) (by decide)
  obtain ⟨rfl, M167, e167⟩ := hQ167
  have N167 := Fr.app N164 M167
  refine own_st (fun u_ k_ => st167 u_ k_) ?_
  show own_Go p e below _ (T167.setTop (mkF m 103 #[.val (.ref pp), .val (.ref qq), .val (.int ((1 : Int32) - (1 : Int32)))] [(.int (0 : Int32))]))
  refine own_st (fun u_ k_ => XS.goto X167.here hx rfl (pc0 := 103) (pc' := 187) rfl (hb hby own_d_prog_21_18_103) (by decide) (by decide) k_) ?_
  show own_Go p e below _ (T167.setTop (mkF m 187 #[.val (.ref pp), .val (.ref qq), .val (.int ((1 : Int32) - (1 : Int32)))] [(.int (0 : Int32))]))
  refine own_st (fun u_ k_ => XS.istoreN X167.here hx rfl (hb hby own_d_prog_21_18_187) rfl (l' := #[.val (.ref pp), .val (.ref qq), .val (.int (0 : Int32))]) rfl k_) ?_
  show own_Go p e below _ (T167.setTop (mkF m 188 #[.val (.ref pp), .val (.ref qq), .val (.int (0 : Int32))] []))
  refine own_st (fun u_ k_ => XS.iloadN X167.here hx rfl (hb hby own_d_prog_21_18_188) rfl k_) ?_
  show own_Go p e below _ (T167.setTop (mkF m 189 #[.val (.ref pp), .val (.ref qq), .val (.int (0 : Int32))] [(.int (0 : Int32))]))
  exact own_retX X167 hx hlk hret rfl (Or.inl ⟨rfl, by simp, _, rfl⟩) (hb hby own_d_prog_21_18_189) (by decide) (by decide) (show QrmV1_1 Z w0 wl wp mr pp qq a b ka kb v0 h0 n0 (some (.int (0 : Int32))) T167.heap _ from (by rw [e167]; exact ⟨rfl, N167, rfl⟩))
theorem own_ef_rmE1_1 (m : MethodId) (pp : Addr) (qq : Addr)  : entryFrame m #[(.ref pp), (.ref qq)] 3 = mkF m 0 #[.val (.ref pp), .val (.ref qq), .unset] [] := by first | (simp [entryFrame, mkF, argsToLocals, Value.category, maxLocals]; done) | rfl
def QrmE1_1 (Z : State) (w0 : Addr) (wl : Addr) (wp : Addr) (mr : Addr) (pp : Addr) (qq : Addr) (a : Addr) (b : Addr) (ka : ClassId) (kb : ClassId) (v0 : Int32) (h0 : Heap) (n0 : Nat) (v : Option Value) (h : Heap) (L : List Loc) : Prop := v = some (.int (1 : Int32)) ∧ Fr n0 L ∧ h = h0
set_option maxRecDepth 65536 in
set_option maxHeartbeats 40000000 in
theorem rmE1_1 (l : Launch) (Z : State) (a0 : Array Value) (hw : ∀ d ∈ tables_1, d.before a0 Z = true) (ws : List Jvm.Cond) (w0 : Addr) (wl : Addr) (wp : Addr) (mr : Addr) (hS : own_S Z w0 wl wp mr) (pp : Addr) (qq : Addr) (a : Addr) (b : Addr) (ka : ClassId) (kb : ClassId) (v0 : Int32) (h0 : Heap) (n0 : Nat) (O0 : Old Z n0 h0) (Ep : Exa Z h0 pp "com/example/tasdik/tasdik/core/cbor/CborValue") (Eq : Exa Z h0 qq "com/example/tasdik/tasdik/core/cbor/CborValue") (T1 : Fld Z h0 pp "com/example/tasdik/tasdik/core/cbor/CborValue" "type" "Lcom/example/tasdik/tasdik/core/cbor/CborValue$Type;" (.ref w0)) (T2 : Fld Z h0 qq "com/example/tasdik/tasdik/core/cbor/CborValue" "type" "Lcom/example/tasdik/tasdik/core/cbor/CborValue$Type;" (.ref w0)) (B1 : Fld Z h0 pp "com/example/tasdik/tasdik/core/cbor/CborValue" "bytes" "[B" (.ref a)) (B2 : Fld Z h0 qq "com/example/tasdik/tasdik/core/cbor/CborValue" "bytes" "[B" (.ref b)) (V : Arv Z h0 a ka .byte (1 : Int32) [(.int v0)] (.int (0 : Int32))) (U : Arv Z h0 b kb .byte (1 : Int32) [(.int v0)] (.int (0 : Int32))) (ne : a ≠ b) :
    own_Met l (⟨"com/example/tasdik/tasdik/core/cbor/CborValue", "equals", "(Ljava/lang/Object;)Z"⟩ : MethodName) prog_21_method_16_code 3 (some .boolean) ws ({ frames := 3, cells := 0, slots := 0, locals := 57 } : Room) Z h0 #[(.ref pp), (.ref qq)] (QrmE1_1 Z w0 wl wp mr pp qq a b ka kb v0 h0 n0) := by
  refine own_body (plainFor_of_name own_pn_119) ?_
  intro p e s m below meth c s₁ hx hby hml hown hnm hret hlk hZ e0 X0
  have N0 := Fr.nil n0
  refine own_st (fun u_ k_ => castTop (own_ef_rmE1_1 m pp qq) k_) ?_
  show own_Go p e below _ (s₁.setTop (mkF m 0 #[.val (.ref pp), .val (.ref qq), .unset] []))
  refine own_st (fun u_ k_ => XS.aloadN X0.here hx rfl (hb hby own_d_prog_21_16_0) rfl rfl k_) ?_
  show own_Go p e below _ (s₁.setTop (mkF m 1 #[.val (.ref pp), .val (.ref qq), .unset] [(.ref qq)]))
  obtain ⟨T168, X168, e168, st168⟩ := instY X0 hx hZ hown (hw _ (List.mem_of_getElem? (i := 9) rfl)) e0 (Ins.self Eq) (g := (mkF m 1 #[.val (.ref pp), .val (.ref qq), .unset] [(.ref qq)])) rfl rfl (hb hby own_d_prog_21_16_1)
  refine own_st (fun u_ k_ => st168 u_ k_) ?_
  show own_Go p e below _ (T168.setTop (mkF m 4 #[.val (.ref pp), .val (.ref qq), .unset] [(.int (1 : Int32))]))
  refine own_st (fun u_ k_ => XS.ifNo X168.here hx rfl (hb hby own_d_prog_21_16_4) rfl (XT.i0_eq_f (by decide)) k_) ?_
  show own_Go p e below _ (T168.setTop (mkF m 7 #[.val (.ref pp), .val (.ref qq), .unset] []))
  refine own_st (fun u_ k_ => XS.aloadN X168.here hx rfl (hb hby own_d_prog_21_16_7) rfl rfl k_) ?_
  show own_Go p e below _ (T168.setTop (mkF m 8 #[.val (.ref pp), .val (.ref qq), .unset] [(.ref qq)]))
  obtain ⟨T169, X169, e169, st169⟩ := castY X168 hx hZ hown (hw _ (List.mem_of_getElem? (i := 9) rfl)) e168 (Ins.self Eq) (g := (mkF m 8 #[.val (.ref pp), .val (.ref qq), .unset] [(.ref qq)])) rfl rfl (hb hby own_d_prog_21_16_8)
  refine own_st (fun u_ k_ => st169 u_ k_) ?_
  show own_Go p e below _ (T169.setTop (mkF m 11 #[.val (.ref pp), .val (.ref qq), .unset] [(.ref qq)]))
  refine own_st (fun u_ k_ => XS.astoreN X169.here hx rfl (hb hby own_d_prog_21_16_11) rfl rfl (l' := #[.val (.ref pp), .val (.ref qq), .val (.ref qq)]) rfl k_) ?_
  show own_Go p e below _ (T169.setTop (mkF m 12 #[.val (.ref pp), .val (.ref qq), .val (.ref qq)] []))
  refine own_st (fun u_ k_ => XS.aloadN X169.here hx rfl (hb hby own_d_prog_21_16_12) rfl rfl k_) ?_
  show own_Go p e below _ (T169.setTop (mkF m 13 #[.val (.ref pp), .val (.ref qq), .val (.ref qq)] [(.ref pp)]))
  refine own_st (fun u_ k_ => XS.aloadN X169.here hx rfl (hb hby own_d_prog_21_16_13) rfl rfl k_) ?_
  show own_Go p e below _ (T169.setTop (mkF m 14 #[.val (.ref pp), .val (.ref qq), .val (.ref qq)] [(.ref qq), (.ref pp)]))
  obtain ⟨T170, v170, L170, X170, hQ170, st170⟩ := own_callS X169 hx hZ (y := (⟨"com/example/tasdik/tasdik/core/cbor/CborValue", "compare", "(Lcom/example/tasdik/tasdik/core/cbor/CborValue;Lcom/example/tasdik/tasdik/core/cbor/CborValue;)I"⟩ : MethodName)) hown (hw _ (List.mem_of_getElem? (i := 75) rfl)) (hw _ (List.mem_of_getElem? (i := 76) rfl)) (hw _ (List.mem_of_getElem? (i := 7) rfl)) (hw _ (List.mem_of_getElem? (i := 77) rfl)) own_lm_134 (rmV1_1 l Z a0 hw [] w0 wl wp mr hS pp qq a b ka kb v0 h0 n0 O0 Ep Eq T1 T2 B1 B2 V U ne) e169 own_pd_255 (argsL := [(.ref pp), (.ref qq)]) (rest := []) rfl rfl (g := (mkF m 14 #[.val (.ref pp), .val (.ref qq), .val (.ref qq)] [(.ref qq), (.ref pp)])) rfl (by rw [hml]; rfl) rfl (hb hby own_d_prog_21_16_14) (W := 0) rfl (by decide) (by decide) (by decide) (by decide)
  obtain ⟨rfl, M170, e170⟩ := hQ170
  have N170 := Fr.app N0 M170
  refine own_st (fun u_ k_ => st170 u_ k_) ?_
  show own_Go p e below _ (T170.setTop (mkF m 17 #[.val (.ref pp), .val (.ref qq), .val (.ref qq)] [(.int (0 : Int32))]))
  refine own_st (fun u_ k_ => XS.ifNo X170.here hx rfl (hb hby own_d_prog_21_16_17) rfl (XT.i0_ne_f (by decide)) k_) ?_
  show own_Go p e below _ (T170.setTop (mkF m 20 #[.val (.ref pp), .val (.ref qq), .val (.ref qq)] []))
  refine own_st (fun u_ k_ => XS.iconst X170.here hx rfl (hb hby own_d_prog_21_16_20) k_) ?_
  show own_Go p e below _ (T170.setTop (mkF m 21 #[.val (.ref pp), .val (.ref qq), .val (.ref qq)] [(.int (1 : Int32))]))
  refine own_st (fun u_ k_ => XS.goto X170.here hx rfl (pc0 := 21) (pc' := 25) rfl (hb hby own_d_prog_21_16_21) (by decide) (by decide) k_) ?_
  show own_Go p e below _ (T170.setTop (mkF m 25 #[.val (.ref pp), .val (.ref qq), .val (.ref qq)] [(.int (1 : Int32))]))
  exact own_retX X170 hx hlk hret rfl (Or.inl ⟨rfl, by simp, _, rfl⟩) (hb hby own_d_prog_21_16_25) (by decide) (by decide) (show QrmE1_1 Z w0 wl wp mr pp qq a b ka kb v0 h0 n0 (some (.int (1 : Int32))) T170.heap _ from (by rw [e170]; exact ⟨rfl, N170, rfl⟩))
theorem own_ef_rmMin2_2 (m : MethodId)   : entryFrame m #[(.int (2 : Int32)), (.int (2 : Int32))] 2 = mkF m 0 #[.val (.int (2 : Int32)), .val (.int (2 : Int32))] [] := by first | (simp [entryFrame, mkF, argsToLocals, Value.category, maxLocals]; done) | rfl
def QrmMin2_2 (Z : State) (w0 : Addr) (wl : Addr) (wp : Addr) (mr : Addr)  (h0 : Heap) (n0 : Nat) (v : Option Value) (h : Heap) (L : List Loc) : Prop := v = some (.int (2 : Int32)) ∧ Fr n0 L ∧ h = h0
set_option maxRecDepth 65536 in
set_option maxHeartbeats 40000000 in
theorem rmMin2_2 (l : Launch) (Z : State) (a0 : Array Value) (hw : ∀ d ∈ tables_1, d.before a0 Z = true) (ws : List Jvm.Cond) (w0 : Addr) (wl : Addr) (wp : Addr) (mr : Addr) (hS : own_S Z w0 wl wp mr)  (h0 : Heap) (n0 : Nat) (O0 : Old Z n0 h0)  :
    own_Met l (⟨"java/lang/Math", "min", "(II)I"⟩ : MethodName) jdk_29_method_69_code 2 (some .int) ws ({ frames := 0, cells := 0, slots := 0, locals := 0 } : Room) Z h0 #[(.int (2 : Int32)), (.int (2 : Int32))] (QrmMin2_2 Z w0 wl wp mr  h0 n0) := by
  refine own_body own_pf_179 ?_
  intro p e s m below meth c s₁ hx hby hml hown hnm hret hlk hZ e0 X0
  have N0 := Fr.nil n0
  refine own_st (fun u_ k_ => castTop (own_ef_rmMin2_2 m ) k_) ?_
  show own_Go p e below _ (s₁.setTop (mkF m 0 #[.val (.int (2 : Int32)), .val (.int (2 : Int32))] []))
  refine own_st (fun u_ k_ => XS.iloadN X0.here hx rfl (hb hby own_d_jdk_29_69_0) rfl k_) ?_
  show own_Go p e below _ (s₁.setTop (mkF m 1 #[.val (.int (2 : Int32)), .val (.int (2 : Int32))] [(.int (2 : Int32))]))
  refine own_st (fun u_ k_ => XS.iloadN X0.here hx rfl (hb hby own_d_jdk_29_69_1) rfl k_) ?_
  show own_Go p e below _ (s₁.setTop (mkF m 2 #[.val (.int (2 : Int32)), .val (.int (2 : Int32))] [(.int (2 : Int32)), (.int (2 : Int32))]))
  refine own_st (fun u_ k_ => XS.icmpNo X0.here hx rfl (hb hby own_d_jdk_29_69_2) rfl (XT.ii_gt_f (by decide)) k_) ?_
  show own_Go p e below _ (s₁.setTop (mkF m 5 #[.val (.int (2 : Int32)), .val (.int (2 : Int32))] []))
  refine own_st (fun u_ k_ => XS.iloadN X0.here hx rfl (hb hby own_d_jdk_29_69_5) rfl k_) ?_
  show own_Go p e below _ (s₁.setTop (mkF m 6 #[.val (.int (2 : Int32)), .val (.int (2 : Int32))] [(.int (2 : Int32))]))
  refine own_st (fun u_ k_ => XS.goto X0.here hx rfl (pc0 := 6) (pc' := 10) rfl (hb hby own_d_jdk_29_69_6) (by decide) (by decide) k_) ?_
  show own_Go p e below _ (s₁.setTop (mkF m 10 #[.val (.int (2 : Int32)), .val (.int (2 : Int32))] [(.int (2 : Int32))]))
  exact own_retX X0 hx hlk hret rfl (Or.inl ⟨rfl, by simp, _, rfl⟩) (hb hby own_d_jdk_29_69_10) (by decide) (by decide) (show QrmMin2_2 Z w0 wl wp mr  h0 n0 (some (.int (2 : Int32))) s₁.heap _ from (by rw [e0]; exact ⟨rfl, N0, rfl⟩))
theorem own_ef_rmMis2_2 (m : MethodId) (a : Addr) (b : Addr)  : entryFrame m #[(.ref a), (.ref b), (.int (2 : Int32))] 4 = mkF m 0 #[.val (.ref a), .val (.ref b), .val (.int (2 : Int32)), .unset] [] := by first | (simp [entryFrame, mkF, argsToLocals, Value.category, maxLocals]; done) | rfl
def QrmMis2_2 (Z : State) (w0 : Addr) (wl : Addr) (wp : Addr) (mr : Addr) (a : Addr) (b : Addr) (ka : ClassId) (kb : ClassId) (v0 : Int32) (v1 : Int32) (h0 : Heap) (n0 : Nat) (v : Option Value) (h : Heap) (L : List Loc) : Prop := v = some (.int (-1 : Int32)) ∧ Fr n0 L ∧ h = h0
set_option maxRecDepth 65536 in
set_option maxHeartbeats 40000000 in
theorem rmMis2_2 (l : Launch) (Z : State) (a0 : Array Value) (hw : ∀ d ∈ tables_1, d.before a0 Z = true) (ws : List Jvm.Cond) (w0 : Addr) (wl : Addr) (wp : Addr) (mr : Addr) (hS : own_S Z w0 wl wp mr) (a : Addr) (b : Addr) (ka : ClassId) (kb : ClassId) (v0 : Int32) (v1 : Int32) (h0 : Heap) (n0 : Nat) (O0 : Old Z n0 h0) (V : Arv Z h0 a ka .byte (2 : Int32) [(.int v0), (.int v1)] (.int (0 : Int32))) (U : Arv Z h0 b kb .byte (2 : Int32) [(.int v0), (.int v1)] (.int (0 : Int32))) :
    own_Met l (⟨"jdk/internal/util/ArraysSupport", "mismatch", "([B[BI)I"⟩ : MethodName) jdk_48_method_13_code 4 (some .int) ws ({ frames := 0, cells := 0, slots := 0, locals := 0 } : Room) Z h0 #[(.ref a), (.ref b), (.int (2 : Int32))] (QrmMis2_2 Z w0 wl wp mr a b ka kb v0 v1 h0 n0) := by
  refine own_body (plainFor_of_name own_pn_190) ?_
  intro p e s m below meth c s₁ hx hby hml hown hnm hret hlk hZ e0 X0
  have N0 := Fr.nil n0
  refine own_st (fun u_ k_ => castTop (own_ef_rmMis2_2 m a b) k_) ?_
  show own_Go p e below _ (s₁.setTop (mkF m 0 #[.val (.ref a), .val (.ref b), .val (.int (2 : Int32)), .unset] []))
  refine own_st (fun u_ k_ => XS.iconst X0.here hx rfl (hb hby own_d_jdk_48_13_0) k_) ?_
  show own_Go p e below _ (s₁.setTop (mkF m 1 #[.val (.ref a), .val (.ref b), .val (.int (2 : Int32)), .unset] [(.int (0 : Int32))]))
  refine own_st (fun u_ k_ => XS.istoreN X0.here hx rfl (hb hby own_d_jdk_48_13_1) rfl (l' := #[.val (.ref a), .val (.ref b), .val (.int (2 : Int32)), .val (.int (0 : Int32))]) rfl k_) ?_
  show own_Go p e below _ (s₁.setTop (mkF m 2 #[.val (.ref a), .val (.ref b), .val (.int (2 : Int32)), .val (.int (0 : Int32))] []))
  refine own_st (fun u_ k_ => XS.iloadN X0.here hx rfl (hb hby own_d_jdk_48_13_2) rfl k_) ?_
  show own_Go p e below _ (s₁.setTop (mkF m 3 #[.val (.ref a), .val (.ref b), .val (.int (2 : Int32)), .val (.int (0 : Int32))] [(.int (2 : Int32))]))
  refine own_st (fun u_ k_ => XS.bipush X0.here hx rfl (hb hby own_d_jdk_48_13_3) k_) ?_
  show own_Go p e below _ (s₁.setTop (mkF m 5 #[.val (.ref a), .val (.ref b), .val (.int (2 : Int32)), .val (.int (0 : Int32))] [(.int (7 : Int32)), (.int (2 : Int32))]))
  refine own_st (fun u_ k_ => XS.icmpYes X0.here hx rfl (pc0 := 5) (pc' := 49) rfl (hb hby own_d_jdk_48_13_5) rfl (XT.ii_le_t (by decide)) (by decide) (by decide) k_) ?_
  show own_Go p e below _ (s₁.setTop (mkF m 49 #[.val (.ref a), .val (.ref b), .val (.int (2 : Int32)), .val (.int (0 : Int32))] []))
  refine own_st (fun u_ k_ => XS.iloadN X0.here hx rfl (hb hby own_d_jdk_48_13_49) rfl k_) ?_
  show own_Go p e below _ (s₁.setTop (mkF m 50 #[.val (.ref a), .val (.ref b), .val (.int (2 : Int32)), .val (.int (0 : Int32))] [(.int (0 : Int32))]))
  refine own_st (fun u_ k_ => XS.iloadN X0.here hx rfl (hb hby own_d_jdk_48_13_50) rfl k_) ?_
  show own_Go p e below _ (s₁.setTop (mkF m 51 #[.val (.ref a), .val (.ref b), .val (.int (2 : Int32)), .val (.int (0 : Int32))] [(.int (2 : Int32)), (.int (0 : Int32))]))
  refine own_st (fun u_ k_ => XS.icmpNo X0.here hx rfl (hb hby own_d_jdk_48_13_51) rfl (XT.ii_ge_f (by decide)) k_) ?_
  show own_Go p e below _ (s₁.setTop (mkF m 54 #[.val (.ref a), .val (.ref b), .val (.int (2 : Int32)), .val (.int (0 : Int32))] []))
  refine own_st (fun u_ k_ => XS.aloadN X0.here hx rfl (hb hby own_d_jdk_48_13_54) rfl rfl k_) ?_
  show own_Go p e below _ (s₁.setTop (mkF m 55 #[.val (.ref a), .val (.ref b), .val (.int (2 : Int32)), .val (.int (0 : Int32))] [(.ref a)]))
  refine own_st (fun u_ k_ => XS.iloadN X0.here hx rfl (hb hby own_d_jdk_48_13_55) rfl k_) ?_
  show own_Go p e below _ (s₁.setTop (mkF m 56 #[.val (.ref a), .val (.ref b), .val (.int (2 : Int32)), .val (.int (0 : Int32))] [(.int (0 : Int32)), (.ref a)]))
  obtain ⟨cl171, Ar171, q171, S171, N171, H171, G171⟩ := id V
  have hi171 : ¬ ((0 : Int32) < 0 ∨ cl171.slots.size ≤ ((0 : Int32)).toNatClampNeg) := inb_of S171 ⟨by decide, by decide⟩
  have ha171 : cl171.slots[((0 : Int32)).toNatClampNeg]? = some (.int v0) := H171.at hi171 rfl
  refine own_st (X0.baloadBytes hx (j := (0 : Int32)) (v := (.int v0)) (by rw [e0]; exact Ar171.1) (State.isArrayOf_alike hZ.alike Ar171.2.1) Ar171.2.2 hi171 ha171 (g := (mkF m 56 #[.val (.ref a), .val (.ref b), .val (.int (2 : Int32)), .val (.int (0 : Int32))] [(.int (0 : Int32)), (.ref a)])) rfl rfl (hb hby own_d_jdk_48_13_56)) ?_
  show own_Go p e below _ (s₁.setTop (mkF m 57 #[.val (.ref a), .val (.ref b), .val (.int (2 : Int32)), .val (.int (0 : Int32))] [(.int v0)]))
  refine own_st (fun u_ k_ => XS.aloadN X0.here hx rfl (hb hby own_d_jdk_48_13_57) rfl rfl k_) ?_
  show own_Go p e below _ (s₁.setTop (mkF m 58 #[.val (.ref a), .val (.ref b), .val (.int (2 : Int32)), .val (.int (0 : Int32))] [(.ref b), (.int v0)]))
  refine own_st (fun u_ k_ => XS.iloadN X0.here hx rfl (hb hby own_d_jdk_48_13_58) rfl k_) ?_
  show own_Go p e below _ (s₁.setTop (mkF m 59 #[.val (.ref a), .val (.ref b), .val (.int (2 : Int32)), .val (.int (0 : Int32))] [(.int (0 : Int32)), (.ref b), (.int v0)]))
  obtain ⟨cl172, Ar172, q172, S172, N172, H172, G172⟩ := id U
  have hi172 : ¬ ((0 : Int32) < 0 ∨ cl172.slots.size ≤ ((0 : Int32)).toNatClampNeg) := inb_of S172 ⟨by decide, by decide⟩
  have ha172 : cl172.slots[((0 : Int32)).toNatClampNeg]? = some (.int v0) := H172.at hi172 rfl
  refine own_st (X0.baloadBytes hx (j := (0 : Int32)) (v := (.int v0)) (by rw [e0]; exact Ar172.1) (State.isArrayOf_alike hZ.alike Ar172.2.1) Ar172.2.2 hi172 ha172 (g := (mkF m 59 #[.val (.ref a), .val (.ref b), .val (.int (2 : Int32)), .val (.int (0 : Int32))] [(.int (0 : Int32)), (.ref b), (.int v0)])) rfl rfl (hb hby own_d_jdk_48_13_59)) ?_
  show own_Go p e below _ (s₁.setTop (mkF m 60 #[.val (.ref a), .val (.ref b), .val (.int (2 : Int32)), .val (.int (0 : Int32))] [(.int v0), (.int v0)]))
  refine own_st (fun u_ k_ => XS.icmpYes X0.here hx rfl (pc0 := 60) (pc' := 65) rfl (hb hby own_d_jdk_48_13_60) rfl (XT.ii_eq_t rfl) (by decide) (by decide) k_) ?_
  show own_Go p e below _ (s₁.setTop (mkF m 65 #[.val (.ref a), .val (.ref b), .val (.int (2 : Int32)), .val (.int (0 : Int32))] []))
  refine own_st (fun u_ k_ => XS.iinc X0.here hx rfl (hb hby own_d_jdk_48_13_65) rfl (l' := #[.val (.ref a), .val (.ref b), .val (.int (2 : Int32)), .val (.int (1 : Int32))]) rfl k_) ?_
  show own_Go p e below _ (s₁.setTop (mkF m 68 #[.val (.ref a), .val (.ref b), .val (.int (2 : Int32)), .val (.int (1 : Int32))] []))
  refine own_st (fun u_ k_ => XS.goto X0.here hx rfl (pc0 := 68) (pc' := 49) rfl (hb hby own_d_jdk_48_13_68) (by decide) (by decide) k_) ?_
  show own_Go p e below _ (s₁.setTop (mkF m 49 #[.val (.ref a), .val (.ref b), .val (.int (2 : Int32)), .val (.int (1 : Int32))] []))
  refine own_st (fun u_ k_ => XS.iloadN X0.here hx rfl (hb hby own_d_jdk_48_13_49) rfl k_) ?_
  show own_Go p e below _ (s₁.setTop (mkF m 50 #[.val (.ref a), .val (.ref b), .val (.int (2 : Int32)), .val (.int (1 : Int32))] [(.int (1 : Int32))]))
  refine own_st (fun u_ k_ => XS.iloadN X0.here hx rfl (hb hby own_d_jdk_48_13_50) rfl k_) ?_
  show own_Go p e below _ (s₁.setTop (mkF m 51 #[.val (.ref a), .val (.ref b), .val (.int (2 : Int32)), .val (.int (1 : Int32))] [(.int (2 : Int32)), (.int (1 : Int32))]))
  refine own_st (fun u_ k_ => XS.icmpNo X0.here hx rfl (hb hby own_d_jdk_48_13_51) rfl (XT.ii_ge_f (by decide)) k_) ?_
  show own_Go p e below _ (s₁.setTop (mkF m 54 #[.val (.ref a), .val (.ref b), .val (.int (2 : Int32)), .val (.int (1 : Int32))] []))
  refine own_st (fun u_ k_ => XS.aloadN X0.here hx rfl (hb hby own_d_jdk_48_13_54) rfl rfl k_) ?_
  show own_Go p e below _ (s₁.setTop (mkF m 55 #[.val (.ref a), .val (.ref b), .val (.int (2 : Int32)), .val (.int (1 : Int32))] [(.ref a)]))
  refine own_st (fun u_ k_ => XS.iloadN X0.here hx rfl (hb hby own_d_jdk_48_13_55) rfl k_) ?_
  show own_Go p e below _ (s₁.setTop (mkF m 56 #[.val (.ref a), .val (.ref b), .val (.int (2 : Int32)), .val (.int (1 : Int32))] [(.int (1 : Int32)), (.ref a)]))
  obtain ⟨cl173, Ar173, q173, S173, N173, H173, G173⟩ := id V
  have hi173 : ¬ ((1 : Int32) < 0 ∨ cl173.slots.size ≤ ((1 : Int32)).toNatClampNeg) := inb_of S173 ⟨by decide, by decide⟩
  have ha173 : cl173.slots[((1 : Int32)).toNatClampNeg]? = some (.int v1) := H173.at hi173 rfl
  refine own_st (X0.baloadBytes hx (j := (1 : Int32)) (v := (.int v1)) (by rw [e0]; exact Ar173.1) (State.isArrayOf_alike hZ.alike Ar173.2.1) Ar173.2.2 hi173 ha173 (g := (mkF m 56 #[.val (.ref a), .val (.ref b), .val (.int (2 : Int32)), .val (.int (1 : Int32))] [(.int (1 : Int32)), (.ref a)])) rfl rfl (hb hby own_d_jdk_48_13_56)) ?_
  show own_Go p e below _ (s₁.setTop (mkF m 57 #[.val (.ref a), .val (.ref b), .val (.int (2 : Int32)), .val (.int (1 : Int32))] [(.int v1)]))
  refine own_st (fun u_ k_ => XS.aloadN X0.here hx rfl (hb hby own_d_jdk_48_13_57) rfl rfl k_) ?_
  show own_Go p e below _ (s₁.setTop (mkF m 58 #[.val (.ref a), .val (.ref b), .val (.int (2 : Int32)), .val (.int (1 : Int32))] [(.ref b), (.int v1)]))
  refine own_st (fun u_ k_ => XS.iloadN X0.here hx rfl (hb hby own_d_jdk_48_13_58) rfl k_) ?_
  show own_Go p e below _ (s₁.setTop (mkF m 59 #[.val (.ref a), .val (.ref b), .val (.int (2 : Int32)), .val (.int (1 : Int32))] [(.int (1 : Int32)), (.ref b), (.int v1)]))
  obtain ⟨cl174, Ar174, q174, S174, N174, H174, G174⟩ := id U
  have hi174 : ¬ ((1 : Int32) < 0 ∨ cl174.slots.size ≤ ((1 : Int32)).toNatClampNeg) := inb_of S174 ⟨by decide, by decide⟩
  have ha174 : cl174.slots[((1 : Int32)).toNatClampNeg]? = some (.int v1) := H174.at hi174 rfl
  refine own_st (X0.baloadBytes hx (j := (1 : Int32)) (v := (.int v1)) (by rw [e0]; exact Ar174.1) (State.isArrayOf_alike hZ.alike Ar174.2.1) Ar174.2.2 hi174 ha174 (g := (mkF m 59 #[.val (.ref a), .val (.ref b), .val (.int (2 : Int32)), .val (.int (1 : Int32))] [(.int (1 : Int32)), (.ref b), (.int v1)])) rfl rfl (hb hby own_d_jdk_48_13_59)) ?_
  show own_Go p e below _ (s₁.setTop (mkF m 60 #[.val (.ref a), .val (.ref b), .val (.int (2 : Int32)), .val (.int (1 : Int32))] [(.int v1), (.int v1)]))
  refine own_st (fun u_ k_ => XS.icmpYes X0.here hx rfl (pc0 := 60) (pc' := 65) rfl (hb hby own_d_jdk_48_13_60) rfl (XT.ii_eq_t rfl) (by decide) (by decide) k_) ?_
  show own_Go p e below _ (s₁.setTop (mkF m 65 #[.val (.ref a), .val (.ref b), .val (.int (2 : Int32)), .val (.int (1 : Int32))] []))
  refine own_st (fun u_ k_ => XS.iinc X0.here hx rfl (hb hby own_d_jdk_48_13_65) rfl (l' := #[.val (.ref a), .val (.ref b), .val (.int (2 : Int32)), .val (.int (2 : Int32))]) rfl k_) ?_
  show own_Go p e below _ (s₁.setTop (mkF m 68 #[.val (.ref a), .val (.ref b), .val (.int (2 : Int32)), .val (.int (2 : Int32))] []))
  refine own_st (fun u_ k_ => XS.goto X0.here hx rfl (pc0 := 68) (pc' := 49) rfl (hb hby own_d_jdk_48_13_68) (by decide) (by decide) k_) ?_
  show own_Go p e below _ (s₁.setTop (mkF m 49 #[.val (.ref a), .val (.ref b), .val (.int (2 : Int32)), .val (.int (2 : Int32))] []))
  refine own_st (fun u_ k_ => XS.iloadN X0.here hx rfl (hb hby own_d_jdk_48_13_49) rfl k_) ?_
  show own_Go p e below _ (s₁.setTop (mkF m 50 #[.val (.ref a), .val (.ref b), .val (.int (2 : Int32)), .val (.int (2 : Int32))] [(.int (2 : Int32))]))
  refine own_st (fun u_ k_ => XS.iloadN X0.here hx rfl (hb hby own_d_jdk_48_13_50) rfl k_) ?_
  show own_Go p e below _ (s₁.setTop (mkF m 51 #[.val (.ref a), .val (.ref b), .val (.int (2 : Int32)), .val (.int (2 : Int32))] [(.int (2 : Int32)), (.int (2 : Int32))]))
  refine own_st (fun u_ k_ => XS.icmpYes X0.here hx rfl (pc0 := 51) (pc' := 71) rfl (hb hby own_d_jdk_48_13_51) rfl (XT.ii_ge_t (by decide)) (by decide) (by decide) k_) ?_
  show own_Go p e below _ (s₁.setTop (mkF m 71 #[.val (.ref a), .val (.ref b), .val (.int (2 : Int32)), .val (.int (2 : Int32))] []))
  refine own_st (fun u_ k_ => XS.iconst X0.here hx rfl (hb hby own_d_jdk_48_13_71) k_) ?_
  show own_Go p e below _ (s₁.setTop (mkF m 72 #[.val (.ref a), .val (.ref b), .val (.int (2 : Int32)), .val (.int (2 : Int32))] [(.int (-1 : Int32))]))
  exact own_retX X0 hx hlk hret rfl (Or.inl ⟨rfl, by simp, _, rfl⟩) (hb hby own_d_jdk_48_13_72) (by decide) (by decide) (show QrmMis2_2 Z w0 wl wp mr a b ka kb v0 v1 h0 n0 (some (.int (-1 : Int32))) s₁.heap _ from (by rw [e0]; exact ⟨rfl, N0, rfl⟩))
theorem own_ef_rmU2_2 (m : MethodId) (a : Addr) (b : Addr)  : entryFrame m #[(.ref a), (.ref b)] 3 = mkF m 0 #[.val (.ref a), .val (.ref b), .unset] [] := by first | (simp [entryFrame, mkF, argsToLocals, Value.category, maxLocals]; done) | rfl
def QrmU2_2 (Z : State) (w0 : Addr) (wl : Addr) (wp : Addr) (mr : Addr) (a : Addr) (b : Addr) (ka : ClassId) (kb : ClassId) (v0 : Int32) (v1 : Int32) (h0 : Heap) (n0 : Nat) (v : Option Value) (h : Heap) (L : List Loc) : Prop := v = some (.int (0 : Int32)) ∧ Fr n0 L ∧ h = h0
set_option maxRecDepth 65536 in
set_option maxHeartbeats 40000000 in
theorem rmU2_2 (l : Launch) (Z : State) (a0 : Array Value) (hw : ∀ d ∈ tables_1, d.before a0 Z = true) (ws : List Jvm.Cond) (w0 : Addr) (wl : Addr) (wp : Addr) (mr : Addr) (hS : own_S Z w0 wl wp mr) (a : Addr) (b : Addr) (ka : ClassId) (kb : ClassId) (v0 : Int32) (v1 : Int32) (h0 : Heap) (n0 : Nat) (O0 : Old Z n0 h0) (V : Arv Z h0 a ka .byte (2 : Int32) [(.int v0), (.int v1)] (.int (0 : Int32))) (U : Arv Z h0 b kb .byte (2 : Int32) [(.int v0), (.int v1)] (.int (0 : Int32))) (ne : a ≠ b) :
    own_Met l (⟨"java/util/Arrays", "compareUnsigned", "([B[B)I"⟩ : MethodName) jdk_65_method_201_code 3 (some .int) ws ({ frames := 1, cells := 0, slots := 0, locals := 15 } : Room) Z h0 #[(.ref a), (.ref b)] (QrmU2_2 Z w0 wl wp mr a b ka kb v0 v1 h0 n0) := by
  refine own_body (plainFor_of_name own_pn_219) ?_
  intro p e s m below meth c s₁ hx hby hml hown hnm hret hlk hZ e0 X0
  have N0 := Fr.nil n0
  refine own_st (fun u_ k_ => castTop (own_ef_rmU2_2 m a b) k_) ?_
  show own_Go p e below _ (s₁.setTop (mkF m 0 #[.val (.ref a), .val (.ref b), .unset] []))
  refine own_st (fun u_ k_ => XS.aloadN X0.here hx rfl (hb hby own_d_jdk_65_201_0) rfl rfl k_) ?_
  show own_Go p e below _ (s₁.setTop (mkF m 1 #[.val (.ref a), .val (.ref b), .unset] [(.ref a)]))
  refine own_st (fun u_ k_ => XS.aloadN X0.here hx rfl (hb hby own_d_jdk_65_201_1) rfl rfl k_) ?_
  show own_Go p e below _ (s₁.setTop (mkF m 2 #[.val (.ref a), .val (.ref b), .unset] [(.ref b), (.ref a)]))
  refine own_st (fun u_ k_ => XT.acmpYes X0.here hx rfl (pc0 := 2) (pc' := 7) rfl (hb hby own_d_jdk_65_201_2) rfl rfl rfl (XT.aa_ne_t (own_rne ne)) (by decide) (by decide) k_) ?_
  show own_Go p e below _ (s₁.setTop (mkF m 7 #[.val (.ref a), .val (.ref b), .unset] []))
  refine own_st (fun u_ k_ => XS.aloadN X0.here hx rfl (hb hby own_d_jdk_65_201_7) rfl rfl k_) ?_
  show own_Go p e below _ (s₁.setTop (mkF m 8 #[.val (.ref a), .val (.ref b), .unset] [(.ref a)]))
  refine own_st (fun u_ k_ => XS.ifnullNo X0.here hx rfl (hb hby own_d_jdk_65_201_8) rfl k_) ?_
  show own_Go p e below _ (s₁.setTop (mkF m 11 #[.val (.ref a), .val (.ref b), .unset] []))
  refine own_st (fun u_ k_ => XS.aloadN X0.here hx rfl (hb hby own_d_jdk_65_201_11) rfl rfl k_) ?_
  show own_Go p e below _ (s₁.setTop (mkF m 12 #[.val (.ref a), .val (.ref b), .unset] [(.ref b)]))
  refine own_st (fun u_ k_ => XS.ifnonnullYes X0.here hx rfl (pc0 := 12) (pc' := 25) rfl (hb hby own_d_jdk_65_201_12) rfl (by decide) (by decide) k_) ?_
  show own_Go p e below _ (s₁.setTop (mkF m 25 #[.val (.ref a), .val (.ref b), .unset] []))
  refine own_st (fun u_ k_ => XS.aloadN X0.here hx rfl (hb hby own_d_jdk_65_201_25) rfl rfl k_) ?_
  show own_Go p e below _ (s₁.setTop (mkF m 26 #[.val (.ref a), .val (.ref b), .unset] [(.ref a)]))
  refine own_st (fun u_ k_ => XS.aloadN X0.here hx rfl (hb hby own_d_jdk_65_201_26) rfl rfl k_) ?_
  show own_Go p e below _ (s₁.setTop (mkF m 27 #[.val (.ref a), .val (.ref b), .unset] [(.ref b), (.ref a)]))
  refine own_st (fun u_ k_ => XS.aloadN X0.here hx rfl (hb hby own_d_jdk_65_201_27) rfl rfl k_) ?_
  show own_Go p e below _ (s₁.setTop (mkF m 28 #[.val (.ref a), .val (.ref b), .unset] [(.ref a), (.ref b), (.ref a)]))
  obtain ⟨cl175, Ar175, -, S175, N175, -, -⟩ := id V
  refine own_st (X0.arraylength hx (by rw [e0]; exact Ar175.1) (State.isArrayOf_alike hZ.alike Ar175.2.1) (g := (mkF m 28 #[.val (.ref a), .val (.ref b), .unset] [(.ref a), (.ref b), (.ref a)])) rfl rfl (hb hby own_d_jdk_65_201_28)) ?_
  rw [len_of S175 N175]
  show own_Go p e below _ (s₁.setTop (mkF m 29 #[.val (.ref a), .val (.ref b), .unset] [(.int (2 : Int32)), (.ref b), (.ref a)]))
  refine own_st (fun u_ k_ => XS.aloadN X0.here hx rfl (hb hby own_d_jdk_65_201_29) rfl rfl k_) ?_
  show own_Go p e below _ (s₁.setTop (mkF m 30 #[.val (.ref a), .val (.ref b), .unset] [(.ref b), (.int (2 : Int32)), (.ref b), (.ref a)]))
  obtain ⟨cl176, Ar176, -, S176, N176, -, -⟩ := id U
  refine own_st (X0.arraylength hx (by rw [e0]; exact Ar176.1) (State.isArrayOf_alike hZ.alike Ar176.2.1) (g := (mkF m 30 #[.val (.ref a), .val (.ref b), .unset] [(.ref b), (.int (2 : Int32)), (.ref b), (.ref a)])) rfl rfl (hb hby own_d_jdk_65_201_30)) ?_
  rw [len_of S176 N176]
  show own_Go p e below _ (s₁.setTop (mkF m 31 #[.val (.ref a), .val (.ref b), .unset] [(.int (2 : Int32)), (.int (2 : Int32)), (.ref b), (.ref a)]))
  obtain ⟨T177, v177, L177, X177, hQ177, st177⟩ := own_callS X0 hx hZ (y := (⟨"java/lang/Math", "min", "(II)I"⟩ : MethodName)) hown (hw _ (List.mem_of_getElem? (i := 103) rfl)) (hw _ (List.mem_of_getElem? (i := 104) rfl)) (hw _ (List.mem_of_getElem? (i := 105) rfl)) (hw _ (List.mem_of_getElem? (i := 106) rfl)) own_lm_205 (rmMin2_2 l Z a0 hw [] w0 wl wp mr hS  h0 n0 O0 ) e0 own_pd_206 (argsL := [(.int (2 : Int32)), (.int (2 : Int32))]) (rest := [(.ref b), (.ref a)]) rfl rfl (g := (mkF m 31 #[.val (.ref a), .val (.ref b), .unset] [(.int (2 : Int32)), (.int (2 : Int32)), (.ref b), (.ref a)])) rfl (by rw [hml]; rfl) rfl (hb hby own_d_jdk_65_201_31) (W := 2) rfl (by decide) (by decide) (by decide) (by decide)
  obtain ⟨rfl, M177, e177⟩ := hQ177
  have N177 := Fr.app N0 M177
  refine own_st (fun u_ k_ => st177 u_ k_) ?_
  show own_Go p e below _ (T177.setTop (mkF m 34 #[.val (.ref a), .val (.ref b), .unset] [(.int (2 : Int32)), (.ref b), (.ref a)]))
  obtain ⟨T178, v178, L178, X178, hQ178, st178⟩ := own_callS X177 hx hZ (y := (⟨"jdk/internal/util/ArraysSupport", "mismatch", "([B[BI)I"⟩ : MethodName)) hown (hw _ (List.mem_of_getElem? (i := 107) rfl)) (hw _ (List.mem_of_getElem? (i := 108) rfl)) (hw _ (List.mem_of_getElem? (i := 109) rfl)) (hw _ (List.mem_of_getElem? (i := 110) rfl)) own_lm_208 (rmMis2_2 l Z a0 hw [] w0 wl wp mr hS a b ka kb v0 v1 h0 n0 O0 V U) e177 own_pd_209 (argsL := [(.ref a), (.ref b), (.int (2 : Int32))]) (rest := []) rfl rfl (g := (mkF m 34 #[.val (.ref a), .val (.ref b), .unset] [(.int (2 : Int32)), (.ref b), (.ref a)])) rfl (by rw [hml]; rfl) rfl (hb hby own_d_jdk_65_201_34) (W := 0) rfl (by decide) (by decide) (by decide) (by decide)
  obtain ⟨rfl, M178, e178⟩ := hQ178
  have N178 := Fr.app N177 M178
  refine own_st (fun u_ k_ => st178 u_ k_) ?_
  show own_Go p e below _ (T178.setTop (mkF m 37 #[.val (.ref a), .val (.ref b), .unset] [(.int (-1 : Int32))]))
  refine own_st (fun u_ k_ => XS.istoreN X178.here hx rfl (hb hby own_d_jdk_65_201_37) rfl (l' := #[.val (.ref a), .val (.ref b), .val (.int (-1 : Int32))]) rfl k_) ?_
  show own_Go p e below _ (T178.setTop (mkF m 38 #[.val (.ref a), .val (.ref b), .val (.int (-1 : Int32))] []))
  refine own_st (fun u_ k_ => XS.iloadN X178.here hx rfl (hb hby own_d_jdk_65_201_38) rfl k_) ?_
  show own_Go p e below _ (T178.setTop (mkF m 39 #[.val (.ref a), .val (.ref b), .val (.int (-1 : Int32))] [(.int (-1 : Int32))]))
  refine own_st (fun u_ k_ => XS.ifYes X178.here hx rfl (pc0 := 39) (pc' := 52) rfl (hb hby own_d_jdk_65_201_39) rfl (XT.i0_lt_t (by decide)) (by decide) (by decide) k_) ?_
  show own_Go p e below _ (T178.setTop (mkF m 52 #[.val (.ref a), .val (.ref b), .val (.int (-1 : Int32))] []))
  refine own_st (fun u_ k_ => XS.aloadN X178.here hx rfl (hb hby own_d_jdk_65_201_52) rfl rfl k_) ?_
  show own_Go p e below _ (T178.setTop (mkF m 53 #[.val (.ref a), .val (.ref b), .val (.int (-1 : Int32))] [(.ref a)]))
  obtain ⟨cl179, Ar179, -, S179, N179, -, -⟩ := id V
  refine own_st (X178.arraylength hx (by rw [e178]; exact Ar179.1) (State.isArrayOf_alike hZ.alike Ar179.2.1) (g := (mkF m 53 #[.val (.ref a), .val (.ref b), .val (.int (-1 : Int32))] [(.ref a)])) rfl rfl (hb hby own_d_jdk_65_201_53)) ?_
  rw [len_of S179 N179]
  show own_Go p e below _ (T178.setTop (mkF m 54 #[.val (.ref a), .val (.ref b), .val (.int (-1 : Int32))] [(.int (2 : Int32))]))
  refine own_st (fun u_ k_ => XS.aloadN X178.here hx rfl (hb hby own_d_jdk_65_201_54) rfl rfl k_) ?_
  show own_Go p e below _ (T178.setTop (mkF m 55 #[.val (.ref a), .val (.ref b), .val (.int (-1 : Int32))] [(.ref b), (.int (2 : Int32))]))
  obtain ⟨cl180, Ar180, -, S180, N180, -, -⟩ := id U
  refine own_st (X178.arraylength hx (by rw [e178]; exact Ar180.1) (State.isArrayOf_alike hZ.alike Ar180.2.1) (g := (mkF m 55 #[.val (.ref a), .val (.ref b), .val (.int (-1 : Int32))] [(.ref b), (.int (2 : Int32))])) rfl rfl (hb hby own_d_jdk_65_201_55)) ?_
  rw [len_of S180 N180]
  show own_Go p e below _ (T178.setTop (mkF m 56 #[.val (.ref a), .val (.ref b), .val (.int (-1 : Int32))] [(.int (2 : Int32)), (.int (2 : Int32))]))
  refine own_st (fun u_ k_ => XS.isub X178.here hx rfl (hb hby own_d_jdk_65_201_56) rfl k_) ?_
  show own_Go p e below _ (T178.setTop (mkF m 57 #[.val (.ref a), .val (.ref b), .val (.int (-1 : Int32))] [(.int (0 : Int32))]))
  exact own_retX X178 hx hlk hret rfl (Or.inl ⟨rfl, by simp, _, rfl⟩) (hb hby own_d_jdk_65_201_57) (by decide) (by decide) (show QrmU2_2 Z w0 wl wp mr a b ka kb v0 v1 h0 n0 (some (.int (0 : Int32))) T178.heap _ from (by rw [e178]; exact ⟨rfl, N178, rfl⟩))
theorem own_ef_rmV2_2 (m : MethodId) (pp : Addr) (qq : Addr)  : entryFrame m #[(.ref pp), (.ref qq)] 3 = mkF m 0 #[.val (.ref pp), .val (.ref qq), .unset] [] := by first | (simp [entryFrame, mkF, argsToLocals, Value.category, maxLocals]; done) | rfl
def QrmV2_2 (Z : State) (w0 : Addr) (wl : Addr) (wp : Addr) (mr : Addr) (pp : Addr) (qq : Addr) (a : Addr) (b : Addr) (ka : ClassId) (kb : ClassId) (v0 : Int32) (v1 : Int32) (h0 : Heap) (n0 : Nat) (v : Option Value) (h : Heap) (L : List Loc) : Prop := v = some (.int (0 : Int32)) ∧ Fr n0 L ∧ h = h0
set_option maxRecDepth 65536 in
set_option maxHeartbeats 40000000 in
theorem rmV2_2 (l : Launch) (Z : State) (a0 : Array Value) (hw : ∀ d ∈ tables_1, d.before a0 Z = true) (ws : List Jvm.Cond) (w0 : Addr) (wl : Addr) (wp : Addr) (mr : Addr) (hS : own_S Z w0 wl wp mr) (pp : Addr) (qq : Addr) (a : Addr) (b : Addr) (ka : ClassId) (kb : ClassId) (v0 : Int32) (v1 : Int32) (h0 : Heap) (n0 : Nat) (O0 : Old Z n0 h0) (Ep : Exa Z h0 pp "com/example/tasdik/tasdik/core/cbor/CborValue") (Eq : Exa Z h0 qq "com/example/tasdik/tasdik/core/cbor/CborValue") (T1 : Fld Z h0 pp "com/example/tasdik/tasdik/core/cbor/CborValue" "type" "Lcom/example/tasdik/tasdik/core/cbor/CborValue$Type;" (.ref w0)) (T2 : Fld Z h0 qq "com/example/tasdik/tasdik/core/cbor/CborValue" "type" "Lcom/example/tasdik/tasdik/core/cbor/CborValue$Type;" (.ref w0)) (B1 : Fld Z h0 pp "com/example/tasdik/tasdik/core/cbor/CborValue" "bytes" "[B" (.ref a)) (B2 : Fld Z h0 qq "com/example/tasdik/tasdik/core/cbor/CborValue" "bytes" "[B" (.ref b)) (V : Arv Z h0 a ka .byte (2 : Int32) [(.int v0), (.int v1)] (.int (0 : Int32))) (U : Arv Z h0 b kb .byte (2 : Int32) [(.int v0), (.int v1)] (.int (0 : Int32))) (ne : a ≠ b) :
    own_Met l (⟨"com/example/tasdik/tasdik/core/cbor/CborValue", "compare", "(Lcom/example/tasdik/tasdik/core/cbor/CborValue;Lcom/example/tasdik/tasdik/core/cbor/CborValue;)I"⟩ : MethodName) prog_21_method_18_code 3 (some .int) ws ({ frames := 2, cells := 0, slots := 0, locals := 43 } : Room) Z h0 #[(.ref pp), (.ref qq)] (QrmV2_2 Z w0 wl wp mr pp qq a b ka kb v0 v1 h0 n0) := by
  refine own_body (plainFor_of_name own_pn_119) ?_
  intro p e s m below meth c s₁ hx hby hml hown hnm hret hlk hZ e0 X0
  have N0 := Fr.nil n0
  refine own_st (fun u_ k_ => castTop (own_ef_rmV2_2 m pp qq) k_) ?_
  show own_Go p e below _ (s₁.setTop (mkF m 0 #[.val (.ref pp), .val (.ref qq), .unset] []))
  refine own_st (fun u_ k_ => XS.aloadN X0.here hx rfl (hb hby own_d_prog_21_18_0) rfl rfl k_) ?_
  show own_Go p e below _ (s₁.setTop (mkF m 1 #[.val (.ref pp), .val (.ref qq), .unset] [(.ref pp)]))
  obtain ⟨T181, X181, e181, st181⟩ := getF X0 hx hZ hown (host := "") (Or.inl (hw _ (List.mem_of_getElem? (i := 31) rfl))) Via.refl e0 T1 (g := (mkF m 1 #[.val (.ref pp), .val (.ref qq), .unset] [(.ref pp)])) rfl rfl (hb hby own_d_prog_21_18_1)
  refine own_st (fun u_ k_ => st181 u_ k_) ?_
  show own_Go p e below _ (T181.setTop (mkF m 4 #[.val (.ref pp), .val (.ref qq), .unset] [(.ref w0)]))
  refine own_st (fun u_ k_ => XS.aloadN X181.here hx rfl (hb hby own_d_prog_21_18_4) rfl rfl k_) ?_
  show own_Go p e below _ (T181.setTop (mkF m 5 #[.val (.ref pp), .val (.ref qq), .unset] [(.ref qq), (.ref w0)]))
  obtain ⟨T182, X182, e182, st182⟩ := getF X181 hx hZ hown (host := "") (Or.inl (hw _ (List.mem_of_getElem? (i := 31) rfl))) Via.refl e181 T2 (g := (mkF m 5 #[.val (.ref pp), .val (.ref qq), .unset] [(.ref qq), (.ref w0)])) rfl rfl (hb hby own_d_prog_21_18_5)
  refine own_st (fun u_ k_ => st182 u_ k_) ?_
  show own_Go p e below _ (T182.setTop (mkF m 8 #[.val (.ref pp), .val (.ref qq), .unset] [(.ref w0), (.ref w0)]))
  have F183 : Exa Z h0 w0 "com/example/tasdik/tasdik/core/cbor/CborValue$Type" := Exa.ext O0.2 hS.2.1
  have F184 : Fld Z h0 w0 "java/lang/Enum" "ordinal" "I" (.int (1 : Int32)) := Fld.ext O0.2 hS.2.2.1
  obtain ⟨T185, v185, L185, X185, hQ185, st185⟩ := own_callU X182 hx hZ (y := (⟨"com/example/tasdik/tasdik/core/cbor/CborValue$Type", "compareTo", "(Ljava/lang/Enum;)I"⟩ : MethodName)) (z := (⟨"java/lang/Enum", "compareTo", "(Ljava/lang/Enum;)I"⟩ : MethodName)) hown (hw _ (List.mem_of_getElem? (i := 78) rfl)) (hw _ (List.mem_of_getElem? (i := 79) rfl)) (hw _ (List.mem_of_getElem? (i := 80) rfl)) (hw _ (List.mem_of_getElem? (i := 82) rfl)) (hw _ (List.mem_of_getElem? (i := 81) rfl)) (hw _ (List.mem_of_getElem? (i := 83) rfl)) (hw _ (List.mem_of_getElem? (i := 84) rfl)) own_lm_225 (rmC l Z a0 hw [] w0 wl wp mr hS w0 (1 : Int32) h0 n0 O0 F183 F184) e182 F183 own_pd_226 (argsL := [(.ref w0)]) (rest := []) rfl rfl (g := (mkF m 8 #[.val (.ref pp), .val (.ref qq), .unset] [(.ref w0), (.ref w0)])) rfl (by rw [hml]; rfl) rfl (hb hby own_d_prog_21_18_8) (W := 0) rfl (by decide) (by decide) (by decide) (by decide)
  obtain ⟨rfl, M185, e185⟩ := hQ185
  have N185 := Fr.app N0 M185
  refine own_st (fun u_ k_ => st185 u_ k_) ?_
  show own_Go p e below _ (T185.setTop (mkF m 11 #[.val (.ref pp), .val (.ref qq), .unset] [(.int ((1 : Int32) - (1 : Int32)))]))
  refine own_st (fun u_ k_ => XS.istoreN X185.here hx rfl (hb hby own_d_prog_21_18_11) rfl (l' := #[.val (.ref pp), .val (.ref qq), .val (.int ((1 : Int32) - (1 : Int32)))]) rfl k_) ?_
  show own_Go p e below _ (T185.setTop (mkF m 12 #[.val (.ref pp), .val (.ref qq), .val (.int ((1 : Int32) - (1 : Int32)))] []))
  refine own_st (fun u_ k_ => XS.iloadN X185.here hx rfl (hb hby own_d_prog_21_18_12) rfl k_) ?_
  show own_Go p e below _ (T185.setTop (mkF m 13 #[.val (.ref pp), .val (.ref qq), .val (.int ((1 : Int32) - (1 : Int32)))] [(.int ((1 : Int32) - (1 : Int32)))]))
  refine own_st (fun u_ k_ => XS.ifNo X185.here hx rfl (hb hby own_d_prog_21_18_13) rfl (XT.i0_ne_f (by decide)) k_) ?_
  show own_Go p e below _ (T185.setTop (mkF m 16 #[.val (.ref pp), .val (.ref qq), .val (.int ((1 : Int32) - (1 : Int32)))] []))
  refine own_st (fun u_ k_ => XS.aloadN X185.here hx rfl (hb hby own_d_prog_21_18_16) rfl rfl k_) ?_
  show own_Go p e below _ (T185.setTop (mkF m 17 #[.val (.ref pp), .val (.ref qq), .val (.int ((1 : Int32) - (1 : Int32)))] [(.ref pp)]))
  obtain ⟨T186, X186, e186, st186⟩ := getF X185 hx hZ hown (host := "") (Or.inl (hw _ (List.mem_of_getElem? (i := 31) rfl))) Via.refl e185 T1 (g := (mkF m 17 #[.val (.ref pp), .val (.ref qq), .val (.int ((1 : Int32) - (1 : Int32)))] [(.ref pp)])) rfl rfl (hb hby own_d_prog_21_18_17)
  refine own_st (fun u_ k_ => st186 u_ k_) ?_
  show own_Go p e below _ (T186.setTop (mkF m 20 #[.val (.ref pp), .val (.ref qq), .val (.int ((1 : Int32) - (1 : Int32)))] [(.ref w0)]))
  obtain ⟨T187, v187, L187, X187, hQ187, st187⟩ := own_callU X186 hx hZ (y := (⟨"com/example/tasdik/tasdik/core/cbor/CborValue$Type", "ordinal", "()I"⟩ : MethodName)) (z := (⟨"java/lang/Enum", "ordinal", "()I"⟩ : MethodName)) hown (hw _ (List.mem_of_getElem? (i := 93) rfl)) (hw _ (List.mem_of_getElem? (i := 94) rfl)) (hw _ (List.mem_of_getElem? (i := 95) rfl)) (hw _ (List.mem_of_getElem? (i := 97) rfl)) (hw _ (List.mem_of_getElem? (i := 96) rfl)) (hw _ (List.mem_of_getElem? (i := 83) rfl)) (hw _ (List.mem_of_getElem? (i := 98) rfl)) own_lm_225 (rmO l Z a0 hw [] w0 wl wp mr hS w0 (1 : Int32) h0 n0 O0 F184) e186 F183 own_pd_233 (argsL := []) (rest := []) rfl rfl (g := (mkF m 20 #[.val (.ref pp), .val (.ref qq), .val (.int ((1 : Int32) - (1 : Int32)))] [(.ref w0)])) rfl (by rw [hml]; rfl) rfl (hb hby own_d_prog_21_18_20) (W := 0) rfl (by decide) (by decide) (by decide) (by decide)
  obtain ⟨rfl, M187, e187⟩ := hQ187
  have N187 := Fr.app N185 M187
  refine own_st (fun u_ k_ => st187 u_ k_) ?_
  show own_Go p e below _ (T187.setTop (mkF m 23 #[.val (.ref pp), .val (.ref qq), .val (.int ((1 : Int32) - (1 : Int32)))] [(.int (1 : Int32))]))
  refine own_st (fun u_ k_ => XS.tswIn X187.here hx rfl (pc0 := 23) (pc' := 92) (o := 69) rfl (hb hby own_d_prog_21_18_23) rfl (by decide) (by decide) (by decide) (by decide) k_) ?_
  show own_Go p e below _ (T187.setTop (mkF m 92 #[.val (.ref pp), .val (.ref qq), .val (.int ((1 : Int32) - (1 : Int32)))] []))
  refine own_st (fun u_ k_ => XS.aloadN X187.here hx rfl (hb hby own_d_prog_21_18_92) rfl rfl k_) ?_
  show own_Go p e below _ (T187.setTop (mkF m 93 #[.val (.ref pp), .val (.ref qq), .val (.int ((1 : Int32) - (1 : Int32)))] [(.ref pp)]))
  obtain ⟨T188, X188, e188, st188⟩ := getF X187 hx hZ hown (host := "") (Or.inl (hw _ (List.mem_of_getElem? (i := 37) rfl))) Via.refl e187 B1 (g := (mkF m 93 #[.val (.ref pp), .val (.ref qq), .val (.int ((1 : Int32) - (1 : Int32)))] [(.ref pp)])) rfl rfl (hb hby own_d_prog_21_18_93)
  refine own_st (fun u_ k_ => st188 u_ k_) ?_
  show own_Go p e below _ (T188.setTop (mkF m 96 #[.val (.ref pp), .val (.ref qq), .val (.int ((1 : Int32) - (1 : Int32)))] [(.ref a)]))
  refine own_st (fun u_ k_ => XS.aloadN X188.here hx rfl (hb hby own_d_prog_21_18_96) rfl rfl k_) ?_
  show own_Go p e below _ (T188.setTop (mkF m 97 #[.val (.ref pp), .val (.ref qq), .val (.int ((1 : Int32) - (1 : Int32)))] [(.ref qq), (.ref a)]))
  obtain ⟨T189, X189, e189, st189⟩ := getF X188 hx hZ hown (host := "") (Or.inl (hw _ (List.mem_of_getElem? (i := 37) rfl))) Via.refl e188 B2 (g := (mkF m 97 #[.val (.ref pp), .val (.ref qq), .val (.int ((1 : Int32) - (1 : Int32)))] [(.ref qq), (.ref a)])) rfl rfl (hb hby own_d_prog_21_18_97)
  refine own_st (fun u_ k_ => st189 u_ k_) ?_
  show own_Go p e below _ (T189.setTop (mkF m 100 #[.val (.ref pp), .val (.ref qq), .val (.int ((1 : Int32) - (1 : Int32)))] [(.ref b), (.ref a)]))
  obtain ⟨T190, v190, L190, X190, hQ190, st190⟩ := own_callS X189 hx hZ (y := (⟨"java/util/Arrays", "compareUnsigned", "([B[B)I"⟩ : MethodName)) hown (hw _ (List.mem_of_getElem? (i := 99) rfl)) (hw _ (List.mem_of_getElem? (i := 100) rfl)) (hw _ (List.mem_of_getElem? (i := 101) rfl)) (hw _ (List.mem_of_getElem? (i := 102) rfl)) own_lm_240 (rmU2_2 l Z a0 hw [] w0 wl wp mr hS a b ka kb v0 v1 h0 n0 O0 V U ne) e189 own_pd_241 (argsL := [(.ref a), (.ref b)]) (rest := []) rfl rfl (g := (mkF m 100 #[.val (.ref pp), .val (.ref qq), .val (.int ((1 : Int32) - (1 : Int32)))] [(.ref b), (.ref a)])) rfl (by rw [hml]; rfl) rfl (hb hby own_d_prog_21_18_100) (W := 0) rfl (by decide) (by decide) (by decide) (by decide)
  obtain ⟨rfl, M190, e190⟩ := hQ190
  have N190 := Fr.app N187 M190
  refine own_st (fun u_ k_ => st190 u_ k_) ?_
  show own_Go p e below _ (T190.setTop (mkF m 103 #[.val (.ref pp), .val (.ref qq), .val (.int ((1 : Int32) - (1 : Int32)))] [(.int (0 : Int32))]))
  refine own_st (fun u_ k_ => XS.goto X190.here hx rfl (pc0 := 103) (pc' := 187) rfl (hb hby own_d_prog_21_18_103) (by decide) (by decide) k_) ?_
  show own_Go p e below _ (T190.setTop (mkF m 187 #[.val (.ref pp), .val (.ref qq), .val (.int ((1 : Int32) - (1 : Int32)))] [(.int (0 : Int32))]))
  refine own_st (fun u_ k_ => XS.istoreN X190.here hx rfl (hb hby own_d_prog_21_18_187) rfl (l' := #[.val (.ref pp), .val (.ref qq), .val (.int (0 : Int32))]) rfl k_) ?_
  show own_Go p e below _ (T190.setTop (mkF m 188 #[.val (.ref pp), .val (.ref qq), .val (.int (0 : Int32))] []))
  refine own_st (fun u_ k_ => XS.iloadN X190.here hx rfl (hb hby own_d_prog_21_18_188) rfl k_) ?_
  show own_Go p e below _ (T190.setTop (mkF m 189 #[.val (.ref pp), .val (.ref qq), .val (.int (0 : Int32))] [(.int (0 : Int32))]))
  exact own_retX X190 hx hlk hret rfl (Or.inl ⟨rfl, by simp, _, rfl⟩) (hb hby own_d_prog_21_18_189) (by decide) (by decide) (show QrmV2_2 Z w0 wl wp mr pp qq a b ka kb v0 v1 h0 n0 (some (.int (0 : Int32))) T190.heap _ from (by rw [e190]; exact ⟨rfl, N190, rfl⟩))
theorem own_ef_rmE2_2 (m : MethodId) (pp : Addr) (qq : Addr)  : entryFrame m #[(.ref pp), (.ref qq)] 3 = mkF m 0 #[.val (.ref pp), .val (.ref qq), .unset] [] := by first | (simp [entryFrame, mkF, argsToLocals, Value.category, maxLocals]; done) | rfl
def QrmE2_2 (Z : State) (w0 : Addr) (wl : Addr) (wp : Addr) (mr : Addr) (pp : Addr) (qq : Addr) (a : Addr) (b : Addr) (ka : ClassId) (kb : ClassId) (v0 : Int32) (v1 : Int32) (h0 : Heap) (n0 : Nat) (v : Option Value) (h : Heap) (L : List Loc) : Prop := v = some (.int (1 : Int32)) ∧ Fr n0 L ∧ h = h0
set_option maxRecDepth 65536 in
set_option maxHeartbeats 40000000 in
theorem rmE2_2 (l : Launch) (Z : State) (a0 : Array Value) (hw : ∀ d ∈ tables_1, d.before a0 Z = true) (ws : List Jvm.Cond) (w0 : Addr) (wl : Addr) (wp : Addr) (mr : Addr) (hS : own_S Z w0 wl wp mr) (pp : Addr) (qq : Addr) (a : Addr) (b : Addr) (ka : ClassId) (kb : ClassId) (v0 : Int32) (v1 : Int32) (h0 : Heap) (n0 : Nat) (O0 : Old Z n0 h0) (Ep : Exa Z h0 pp "com/example/tasdik/tasdik/core/cbor/CborValue") (Eq : Exa Z h0 qq "com/example/tasdik/tasdik/core/cbor/CborValue") (T1 : Fld Z h0 pp "com/example/tasdik/tasdik/core/cbor/CborValue" "type" "Lcom/example/tasdik/tasdik/core/cbor/CborValue$Type;" (.ref w0)) (T2 : Fld Z h0 qq "com/example/tasdik/tasdik/core/cbor/CborValue" "type" "Lcom/example/tasdik/tasdik/core/cbor/CborValue$Type;" (.ref w0)) (B1 : Fld Z h0 pp "com/example/tasdik/tasdik/core/cbor/CborValue" "bytes" "[B" (.ref a)) (B2 : Fld Z h0 qq "com/example/tasdik/tasdik/core/cbor/CborValue" "bytes" "[B" (.ref b)) (V : Arv Z h0 a ka .byte (2 : Int32) [(.int v0), (.int v1)] (.int (0 : Int32))) (U : Arv Z h0 b kb .byte (2 : Int32) [(.int v0), (.int v1)] (.int (0 : Int32))) (ne : a ≠ b) :
    own_Met l (⟨"com/example/tasdik/tasdik/core/cbor/CborValue", "equals", "(Ljava/lang/Object;)Z"⟩ : MethodName) prog_21_method_16_code 3 (some .boolean) ws ({ frames := 3, cells := 0, slots := 0, locals := 57 } : Room) Z h0 #[(.ref pp), (.ref qq)] (QrmE2_2 Z w0 wl wp mr pp qq a b ka kb v0 v1 h0 n0) := by
  refine own_body (plainFor_of_name own_pn_119) ?_
  intro p e s m below meth c s₁ hx hby hml hown hnm hret hlk hZ e0 X0
  have N0 := Fr.nil n0
  refine own_st (fun u_ k_ => castTop (own_ef_rmE2_2 m pp qq) k_) ?_
  show own_Go p e below _ (s₁.setTop (mkF m 0 #[.val (.ref pp), .val (.ref qq), .unset] []))
  refine own_st (fun u_ k_ => XS.aloadN X0.here hx rfl (hb hby own_d_prog_21_16_0) rfl rfl k_) ?_
  show own_Go p e below _ (s₁.setTop (mkF m 1 #[.val (.ref pp), .val (.ref qq), .unset] [(.ref qq)]))
  obtain ⟨T191, X191, e191, st191⟩ := instY X0 hx hZ hown (hw _ (List.mem_of_getElem? (i := 9) rfl)) e0 (Ins.self Eq) (g := (mkF m 1 #[.val (.ref pp), .val (.ref qq), .unset] [(.ref qq)])) rfl rfl (hb hby own_d_prog_21_16_1)
  refine own_st (fun u_ k_ => st191 u_ k_) ?_
  show own_Go p e below _ (T191.setTop (mkF m 4 #[.val (.ref pp), .val (.ref qq), .unset] [(.int (1 : Int32))]))
  refine own_st (fun u_ k_ => XS.ifNo X191.here hx rfl (hb hby own_d_prog_21_16_4) rfl (XT.i0_eq_f (by decide)) k_) ?_
  show own_Go p e below _ (T191.setTop (mkF m 7 #[.val (.ref pp), .val (.ref qq), .unset] []))
  refine own_st (fun u_ k_ => XS.aloadN X191.here hx rfl (hb hby own_d_prog_21_16_7) rfl rfl k_) ?_
  show own_Go p e below _ (T191.setTop (mkF m 8 #[.val (.ref pp), .val (.ref qq), .unset] [(.ref qq)]))
  obtain ⟨T192, X192, e192, st192⟩ := castY X191 hx hZ hown (hw _ (List.mem_of_getElem? (i := 9) rfl)) e191 (Ins.self Eq) (g := (mkF m 8 #[.val (.ref pp), .val (.ref qq), .unset] [(.ref qq)])) rfl rfl (hb hby own_d_prog_21_16_8)
  refine own_st (fun u_ k_ => st192 u_ k_) ?_
  show own_Go p e below _ (T192.setTop (mkF m 11 #[.val (.ref pp), .val (.ref qq), .unset] [(.ref qq)]))
  refine own_st (fun u_ k_ => XS.astoreN X192.here hx rfl (hb hby own_d_prog_21_16_11) rfl rfl (l' := #[.val (.ref pp), .val (.ref qq), .val (.ref qq)]) rfl k_) ?_
  show own_Go p e below _ (T192.setTop (mkF m 12 #[.val (.ref pp), .val (.ref qq), .val (.ref qq)] []))
  refine own_st (fun u_ k_ => XS.aloadN X192.here hx rfl (hb hby own_d_prog_21_16_12) rfl rfl k_) ?_
  show own_Go p e below _ (T192.setTop (mkF m 13 #[.val (.ref pp), .val (.ref qq), .val (.ref qq)] [(.ref pp)]))
  refine own_st (fun u_ k_ => XS.aloadN X192.here hx rfl (hb hby own_d_prog_21_16_13) rfl rfl k_) ?_
  show own_Go p e below _ (T192.setTop (mkF m 14 #[.val (.ref pp), .val (.ref qq), .val (.ref qq)] [(.ref qq), (.ref pp)]))
  obtain ⟨T193, v193, L193, X193, hQ193, st193⟩ := own_callS X192 hx hZ (y := (⟨"com/example/tasdik/tasdik/core/cbor/CborValue", "compare", "(Lcom/example/tasdik/tasdik/core/cbor/CborValue;Lcom/example/tasdik/tasdik/core/cbor/CborValue;)I"⟩ : MethodName)) hown (hw _ (List.mem_of_getElem? (i := 75) rfl)) (hw _ (List.mem_of_getElem? (i := 76) rfl)) (hw _ (List.mem_of_getElem? (i := 7) rfl)) (hw _ (List.mem_of_getElem? (i := 77) rfl)) own_lm_134 (rmV2_2 l Z a0 hw [] w0 wl wp mr hS pp qq a b ka kb v0 v1 h0 n0 O0 Ep Eq T1 T2 B1 B2 V U ne) e192 own_pd_255 (argsL := [(.ref pp), (.ref qq)]) (rest := []) rfl rfl (g := (mkF m 14 #[.val (.ref pp), .val (.ref qq), .val (.ref qq)] [(.ref qq), (.ref pp)])) rfl (by rw [hml]; rfl) rfl (hb hby own_d_prog_21_16_14) (W := 0) rfl (by decide) (by decide) (by decide) (by decide)
  obtain ⟨rfl, M193, e193⟩ := hQ193
  have N193 := Fr.app N0 M193
  refine own_st (fun u_ k_ => st193 u_ k_) ?_
  show own_Go p e below _ (T193.setTop (mkF m 17 #[.val (.ref pp), .val (.ref qq), .val (.ref qq)] [(.int (0 : Int32))]))
  refine own_st (fun u_ k_ => XS.ifNo X193.here hx rfl (hb hby own_d_prog_21_16_17) rfl (XT.i0_ne_f (by decide)) k_) ?_
  show own_Go p e below _ (T193.setTop (mkF m 20 #[.val (.ref pp), .val (.ref qq), .val (.ref qq)] []))
  refine own_st (fun u_ k_ => XS.iconst X193.here hx rfl (hb hby own_d_prog_21_16_20) k_) ?_
  show own_Go p e below _ (T193.setTop (mkF m 21 #[.val (.ref pp), .val (.ref qq), .val (.ref qq)] [(.int (1 : Int32))]))
  refine own_st (fun u_ k_ => XS.goto X193.here hx rfl (pc0 := 21) (pc' := 25) rfl (hb hby own_d_prog_21_16_21) (by decide) (by decide) k_) ?_
  show own_Go p e below _ (T193.setTop (mkF m 25 #[.val (.ref pp), .val (.ref qq), .val (.ref qq)] [(.int (1 : Int32))]))
  exact own_retX X193 hx hlk hret rfl (Or.inl ⟨rfl, by simp, _, rfl⟩) (hb hby own_d_prog_21_16_25) (by decide) (by decide) (show QrmE2_2 Z w0 wl wp mr pp qq a b ka kb v0 v1 h0 n0 (some (.int (1 : Int32))) T193.heap _ from (by rw [e193]; exact ⟨rfl, N193, rfl⟩))
theorem own_ef_rmMin3_3 (m : MethodId)   : entryFrame m #[(.int (3 : Int32)), (.int (3 : Int32))] 2 = mkF m 0 #[.val (.int (3 : Int32)), .val (.int (3 : Int32))] [] := by first | (simp [entryFrame, mkF, argsToLocals, Value.category, maxLocals]; done) | rfl
def QrmMin3_3 (Z : State) (w0 : Addr) (wl : Addr) (wp : Addr) (mr : Addr)  (h0 : Heap) (n0 : Nat) (v : Option Value) (h : Heap) (L : List Loc) : Prop := v = some (.int (3 : Int32)) ∧ Fr n0 L ∧ h = h0
set_option maxRecDepth 65536 in
set_option maxHeartbeats 40000000 in
theorem rmMin3_3 (l : Launch) (Z : State) (a0 : Array Value) (hw : ∀ d ∈ tables_1, d.before a0 Z = true) (ws : List Jvm.Cond) (w0 : Addr) (wl : Addr) (wp : Addr) (mr : Addr) (hS : own_S Z w0 wl wp mr)  (h0 : Heap) (n0 : Nat) (O0 : Old Z n0 h0)  :
    own_Met l (⟨"java/lang/Math", "min", "(II)I"⟩ : MethodName) jdk_29_method_69_code 2 (some .int) ws ({ frames := 0, cells := 0, slots := 0, locals := 0 } : Room) Z h0 #[(.int (3 : Int32)), (.int (3 : Int32))] (QrmMin3_3 Z w0 wl wp mr  h0 n0) := by
  refine own_body own_pf_179 ?_
  intro p e s m below meth c s₁ hx hby hml hown hnm hret hlk hZ e0 X0
  have N0 := Fr.nil n0
  refine own_st (fun u_ k_ => castTop (own_ef_rmMin3_3 m ) k_) ?_
  show own_Go p e below _ (s₁.setTop (mkF m 0 #[.val (.int (3 : Int32)), .val (.int (3 : Int32))] []))
  refine own_st (fun u_ k_ => XS.iloadN X0.here hx rfl (hb hby own_d_jdk_29_69_0) rfl k_) ?_
  show own_Go p e below _ (s₁.setTop (mkF m 1 #[.val (.int (3 : Int32)), .val (.int (3 : Int32))] [(.int (3 : Int32))]))
  refine own_st (fun u_ k_ => XS.iloadN X0.here hx rfl (hb hby own_d_jdk_29_69_1) rfl k_) ?_
  show own_Go p e below _ (s₁.setTop (mkF m 2 #[.val (.int (3 : Int32)), .val (.int (3 : Int32))] [(.int (3 : Int32)), (.int (3 : Int32))]))
  refine own_st (fun u_ k_ => XS.icmpNo X0.here hx rfl (hb hby own_d_jdk_29_69_2) rfl (XT.ii_gt_f (by decide)) k_) ?_
  show own_Go p e below _ (s₁.setTop (mkF m 5 #[.val (.int (3 : Int32)), .val (.int (3 : Int32))] []))
  refine own_st (fun u_ k_ => XS.iloadN X0.here hx rfl (hb hby own_d_jdk_29_69_5) rfl k_) ?_
  show own_Go p e below _ (s₁.setTop (mkF m 6 #[.val (.int (3 : Int32)), .val (.int (3 : Int32))] [(.int (3 : Int32))]))
  refine own_st (fun u_ k_ => XS.goto X0.here hx rfl (pc0 := 6) (pc' := 10) rfl (hb hby own_d_jdk_29_69_6) (by decide) (by decide) k_) ?_
  show own_Go p e below _ (s₁.setTop (mkF m 10 #[.val (.int (3 : Int32)), .val (.int (3 : Int32))] [(.int (3 : Int32))]))
  exact own_retX X0 hx hlk hret rfl (Or.inl ⟨rfl, by simp, _, rfl⟩) (hb hby own_d_jdk_29_69_10) (by decide) (by decide) (show QrmMin3_3 Z w0 wl wp mr  h0 n0 (some (.int (3 : Int32))) s₁.heap _ from (by rw [e0]; exact ⟨rfl, N0, rfl⟩))
theorem own_ef_rmMis3_3 (m : MethodId) (a : Addr) (b : Addr)  : entryFrame m #[(.ref a), (.ref b), (.int (3 : Int32))] 4 = mkF m 0 #[.val (.ref a), .val (.ref b), .val (.int (3 : Int32)), .unset] [] := by first | (simp [entryFrame, mkF, argsToLocals, Value.category, maxLocals]; done) | rfl
def QrmMis3_3 (Z : State) (w0 : Addr) (wl : Addr) (wp : Addr) (mr : Addr) (a : Addr) (b : Addr) (ka : ClassId) (kb : ClassId) (v0 : Int32) (v1 : Int32) (v2 : Int32) (h0 : Heap) (n0 : Nat) (v : Option Value) (h : Heap) (L : List Loc) : Prop := v = some (.int (-1 : Int32)) ∧ Fr n0 L ∧ h = h0
set_option maxRecDepth 65536 in
set_option maxHeartbeats 40000000 in
theorem rmMis3_3 (l : Launch) (Z : State) (a0 : Array Value) (hw : ∀ d ∈ tables_1, d.before a0 Z = true) (ws : List Jvm.Cond) (w0 : Addr) (wl : Addr) (wp : Addr) (mr : Addr) (hS : own_S Z w0 wl wp mr) (a : Addr) (b : Addr) (ka : ClassId) (kb : ClassId) (v0 : Int32) (v1 : Int32) (v2 : Int32) (h0 : Heap) (n0 : Nat) (O0 : Old Z n0 h0) (V : Arv Z h0 a ka .byte (3 : Int32) [(.int v0), (.int v1), (.int v2)] (.int (0 : Int32))) (U : Arv Z h0 b kb .byte (3 : Int32) [(.int v0), (.int v1), (.int v2)] (.int (0 : Int32))) :
    own_Met l (⟨"jdk/internal/util/ArraysSupport", "mismatch", "([B[BI)I"⟩ : MethodName) jdk_48_method_13_code 4 (some .int) ws ({ frames := 0, cells := 0, slots := 0, locals := 0 } : Room) Z h0 #[(.ref a), (.ref b), (.int (3 : Int32))] (QrmMis3_3 Z w0 wl wp mr a b ka kb v0 v1 v2 h0 n0) := by
  refine own_body (plainFor_of_name own_pn_190) ?_
  intro p e s m below meth c s₁ hx hby hml hown hnm hret hlk hZ e0 X0
  have N0 := Fr.nil n0
  refine own_st (fun u_ k_ => castTop (own_ef_rmMis3_3 m a b) k_) ?_
  show own_Go p e below _ (s₁.setTop (mkF m 0 #[.val (.ref a), .val (.ref b), .val (.int (3 : Int32)), .unset] []))
  refine own_st (fun u_ k_ => XS.iconst X0.here hx rfl (hb hby own_d_jdk_48_13_0) k_) ?_
  show own_Go p e below _ (s₁.setTop (mkF m 1 #[.val (.ref a), .val (.ref b), .val (.int (3 : Int32)), .unset] [(.int (0 : Int32))]))
  refine own_st (fun u_ k_ => XS.istoreN X0.here hx rfl (hb hby own_d_jdk_48_13_1) rfl (l' := #[.val (.ref a), .val (.ref b), .val (.int (3 : Int32)), .val (.int (0 : Int32))]) rfl k_) ?_
  show own_Go p e below _ (s₁.setTop (mkF m 2 #[.val (.ref a), .val (.ref b), .val (.int (3 : Int32)), .val (.int (0 : Int32))] []))
  refine own_st (fun u_ k_ => XS.iloadN X0.here hx rfl (hb hby own_d_jdk_48_13_2) rfl k_) ?_
  show own_Go p e below _ (s₁.setTop (mkF m 3 #[.val (.ref a), .val (.ref b), .val (.int (3 : Int32)), .val (.int (0 : Int32))] [(.int (3 : Int32))]))
  refine own_st (fun u_ k_ => XS.bipush X0.here hx rfl (hb hby own_d_jdk_48_13_3) k_) ?_
  show own_Go p e below _ (s₁.setTop (mkF m 5 #[.val (.ref a), .val (.ref b), .val (.int (3 : Int32)), .val (.int (0 : Int32))] [(.int (7 : Int32)), (.int (3 : Int32))]))
  refine own_st (fun u_ k_ => XS.icmpYes X0.here hx rfl (pc0 := 5) (pc' := 49) rfl (hb hby own_d_jdk_48_13_5) rfl (XT.ii_le_t (by decide)) (by decide) (by decide) k_) ?_
  show own_Go p e below _ (s₁.setTop (mkF m 49 #[.val (.ref a), .val (.ref b), .val (.int (3 : Int32)), .val (.int (0 : Int32))] []))
  refine own_st (fun u_ k_ => XS.iloadN X0.here hx rfl (hb hby own_d_jdk_48_13_49) rfl k_) ?_
  show own_Go p e below _ (s₁.setTop (mkF m 50 #[.val (.ref a), .val (.ref b), .val (.int (3 : Int32)), .val (.int (0 : Int32))] [(.int (0 : Int32))]))
  refine own_st (fun u_ k_ => XS.iloadN X0.here hx rfl (hb hby own_d_jdk_48_13_50) rfl k_) ?_
  show own_Go p e below _ (s₁.setTop (mkF m 51 #[.val (.ref a), .val (.ref b), .val (.int (3 : Int32)), .val (.int (0 : Int32))] [(.int (3 : Int32)), (.int (0 : Int32))]))
  refine own_st (fun u_ k_ => XS.icmpNo X0.here hx rfl (hb hby own_d_jdk_48_13_51) rfl (XT.ii_ge_f (by decide)) k_) ?_
  show own_Go p e below _ (s₁.setTop (mkF m 54 #[.val (.ref a), .val (.ref b), .val (.int (3 : Int32)), .val (.int (0 : Int32))] []))
  refine own_st (fun u_ k_ => XS.aloadN X0.here hx rfl (hb hby own_d_jdk_48_13_54) rfl rfl k_) ?_
  show own_Go p e below _ (s₁.setTop (mkF m 55 #[.val (.ref a), .val (.ref b), .val (.int (3 : Int32)), .val (.int (0 : Int32))] [(.ref a)]))
  refine own_st (fun u_ k_ => XS.iloadN X0.here hx rfl (hb hby own_d_jdk_48_13_55) rfl k_) ?_
  show own_Go p e below _ (s₁.setTop (mkF m 56 #[.val (.ref a), .val (.ref b), .val (.int (3 : Int32)), .val (.int (0 : Int32))] [(.int (0 : Int32)), (.ref a)]))
  obtain ⟨cl194, Ar194, q194, S194, N194, H194, G194⟩ := id V
  have hi194 : ¬ ((0 : Int32) < 0 ∨ cl194.slots.size ≤ ((0 : Int32)).toNatClampNeg) := inb_of S194 ⟨by decide, by decide⟩
  have ha194 : cl194.slots[((0 : Int32)).toNatClampNeg]? = some (.int v0) := H194.at hi194 rfl
  refine own_st (X0.baloadBytes hx (j := (0 : Int32)) (v := (.int v0)) (by rw [e0]; exact Ar194.1) (State.isArrayOf_alike hZ.alike Ar194.2.1) Ar194.2.2 hi194 ha194 (g := (mkF m 56 #[.val (.ref a), .val (.ref b), .val (.int (3 : Int32)), .val (.int (0 : Int32))] [(.int (0 : Int32)), (.ref a)])) rfl rfl (hb hby own_d_jdk_48_13_56)) ?_
  show own_Go p e below _ (s₁.setTop (mkF m 57 #[.val (.ref a), .val (.ref b), .val (.int (3 : Int32)), .val (.int (0 : Int32))] [(.int v0)]))
  refine own_st (fun u_ k_ => XS.aloadN X0.here hx rfl (hb hby own_d_jdk_48_13_57) rfl rfl k_) ?_
  show own_Go p e below _ (s₁.setTop (mkF m 58 #[.val (.ref a), .val (.ref b), .val (.int (3 : Int32)), .val (.int (0 : Int32))] [(.ref b), (.int v0)]))
  refine own_st (fun u_ k_ => XS.iloadN X0.here hx rfl (hb hby own_d_jdk_48_13_58) rfl k_) ?_
  show own_Go p e below _ (s₁.setTop (mkF m 59 #[.val (.ref a), .val (.ref b), .val (.int (3 : Int32)), .val (.int (0 : Int32))] [(.int (0 : Int32)), (.ref b), (.int v0)]))
  obtain ⟨cl195, Ar195, q195, S195, N195, H195, G195⟩ := id U
  have hi195 : ¬ ((0 : Int32) < 0 ∨ cl195.slots.size ≤ ((0 : Int32)).toNatClampNeg) := inb_of S195 ⟨by decide, by decide⟩
  have ha195 : cl195.slots[((0 : Int32)).toNatClampNeg]? = some (.int v0) := H195.at hi195 rfl
  refine own_st (X0.baloadBytes hx (j := (0 : Int32)) (v := (.int v0)) (by rw [e0]; exact Ar195.1) (State.isArrayOf_alike hZ.alike Ar195.2.1) Ar195.2.2 hi195 ha195 (g := (mkF m 59 #[.val (.ref a), .val (.ref b), .val (.int (3 : Int32)), .val (.int (0 : Int32))] [(.int (0 : Int32)), (.ref b), (.int v0)])) rfl rfl (hb hby own_d_jdk_48_13_59)) ?_
  show own_Go p e below _ (s₁.setTop (mkF m 60 #[.val (.ref a), .val (.ref b), .val (.int (3 : Int32)), .val (.int (0 : Int32))] [(.int v0), (.int v0)]))
  refine own_st (fun u_ k_ => XS.icmpYes X0.here hx rfl (pc0 := 60) (pc' := 65) rfl (hb hby own_d_jdk_48_13_60) rfl (XT.ii_eq_t rfl) (by decide) (by decide) k_) ?_
  show own_Go p e below _ (s₁.setTop (mkF m 65 #[.val (.ref a), .val (.ref b), .val (.int (3 : Int32)), .val (.int (0 : Int32))] []))
  refine own_st (fun u_ k_ => XS.iinc X0.here hx rfl (hb hby own_d_jdk_48_13_65) rfl (l' := #[.val (.ref a), .val (.ref b), .val (.int (3 : Int32)), .val (.int (1 : Int32))]) rfl k_) ?_
  show own_Go p e below _ (s₁.setTop (mkF m 68 #[.val (.ref a), .val (.ref b), .val (.int (3 : Int32)), .val (.int (1 : Int32))] []))
  refine own_st (fun u_ k_ => XS.goto X0.here hx rfl (pc0 := 68) (pc' := 49) rfl (hb hby own_d_jdk_48_13_68) (by decide) (by decide) k_) ?_
  show own_Go p e below _ (s₁.setTop (mkF m 49 #[.val (.ref a), .val (.ref b), .val (.int (3 : Int32)), .val (.int (1 : Int32))] []))
  refine own_st (fun u_ k_ => XS.iloadN X0.here hx rfl (hb hby own_d_jdk_48_13_49) rfl k_) ?_
  show own_Go p e below _ (s₁.setTop (mkF m 50 #[.val (.ref a), .val (.ref b), .val (.int (3 : Int32)), .val (.int (1 : Int32))] [(.int (1 : Int32))]))
  refine own_st (fun u_ k_ => XS.iloadN X0.here hx rfl (hb hby own_d_jdk_48_13_50) rfl k_) ?_
  show own_Go p e below _ (s₁.setTop (mkF m 51 #[.val (.ref a), .val (.ref b), .val (.int (3 : Int32)), .val (.int (1 : Int32))] [(.int (3 : Int32)), (.int (1 : Int32))]))
  refine own_st (fun u_ k_ => XS.icmpNo X0.here hx rfl (hb hby own_d_jdk_48_13_51) rfl (XT.ii_ge_f (by decide)) k_) ?_
  show own_Go p e below _ (s₁.setTop (mkF m 54 #[.val (.ref a), .val (.ref b), .val (.int (3 : Int32)), .val (.int (1 : Int32))] []))
  refine own_st (fun u_ k_ => XS.aloadN X0.here hx rfl (hb hby own_d_jdk_48_13_54) rfl rfl k_) ?_
  show own_Go p e below _ (s₁.setTop (mkF m 55 #[.val (.ref a), .val (.ref b), .val (.int (3 : Int32)), .val (.int (1 : Int32))] [(.ref a)]))
  refine own_st (fun u_ k_ => XS.iloadN X0.here hx rfl (hb hby own_d_jdk_48_13_55) rfl k_) ?_
  show own_Go p e below _ (s₁.setTop (mkF m 56 #[.val (.ref a), .val (.ref b), .val (.int (3 : Int32)), .val (.int (1 : Int32))] [(.int (1 : Int32)), (.ref a)]))
  obtain ⟨cl196, Ar196, q196, S196, N196, H196, G196⟩ := id V
  have hi196 : ¬ ((1 : Int32) < 0 ∨ cl196.slots.size ≤ ((1 : Int32)).toNatClampNeg) := inb_of S196 ⟨by decide, by decide⟩
  have ha196 : cl196.slots[((1 : Int32)).toNatClampNeg]? = some (.int v1) := H196.at hi196 rfl
  refine own_st (X0.baloadBytes hx (j := (1 : Int32)) (v := (.int v1)) (by rw [e0]; exact Ar196.1) (State.isArrayOf_alike hZ.alike Ar196.2.1) Ar196.2.2 hi196 ha196 (g := (mkF m 56 #[.val (.ref a), .val (.ref b), .val (.int (3 : Int32)), .val (.int (1 : Int32))] [(.int (1 : Int32)), (.ref a)])) rfl rfl (hb hby own_d_jdk_48_13_56)) ?_
  show own_Go p e below _ (s₁.setTop (mkF m 57 #[.val (.ref a), .val (.ref b), .val (.int (3 : Int32)), .val (.int (1 : Int32))] [(.int v1)]))
  refine own_st (fun u_ k_ => XS.aloadN X0.here hx rfl (hb hby own_d_jdk_48_13_57) rfl rfl k_) ?_
  show own_Go p e below _ (s₁.setTop (mkF m 58 #[.val (.ref a), .val (.ref b), .val (.int (3 : Int32)), .val (.int (1 : Int32))] [(.ref b), (.int v1)]))
  refine own_st (fun u_ k_ => XS.iloadN X0.here hx rfl (hb hby own_d_jdk_48_13_58) rfl k_) ?_
  show own_Go p e below _ (s₁.setTop (mkF m 59 #[.val (.ref a), .val (.ref b), .val (.int (3 : Int32)), .val (.int (1 : Int32))] [(.int (1 : Int32)), (.ref b), (.int v1)]))
  obtain ⟨cl197, Ar197, q197, S197, N197, H197, G197⟩ := id U
  have hi197 : ¬ ((1 : Int32) < 0 ∨ cl197.slots.size ≤ ((1 : Int32)).toNatClampNeg) := inb_of S197 ⟨by decide, by decide⟩
  have ha197 : cl197.slots[((1 : Int32)).toNatClampNeg]? = some (.int v1) := H197.at hi197 rfl
  refine own_st (X0.baloadBytes hx (j := (1 : Int32)) (v := (.int v1)) (by rw [e0]; exact Ar197.1) (State.isArrayOf_alike hZ.alike Ar197.2.1) Ar197.2.2 hi197 ha197 (g := (mkF m 59 #[.val (.ref a), .val (.ref b), .val (.int (3 : Int32)), .val (.int (1 : Int32))] [(.int (1 : Int32)), (.ref b), (.int v1)])) rfl rfl (hb hby own_d_jdk_48_13_59)) ?_
  show own_Go p e below _ (s₁.setTop (mkF m 60 #[.val (.ref a), .val (.ref b), .val (.int (3 : Int32)), .val (.int (1 : Int32))] [(.int v1), (.int v1)]))
  refine own_st (fun u_ k_ => XS.icmpYes X0.here hx rfl (pc0 := 60) (pc' := 65) rfl (hb hby own_d_jdk_48_13_60) rfl (XT.ii_eq_t rfl) (by decide) (by decide) k_) ?_
  show own_Go p e below _ (s₁.setTop (mkF m 65 #[.val (.ref a), .val (.ref b), .val (.int (3 : Int32)), .val (.int (1 : Int32))] []))
  refine own_st (fun u_ k_ => XS.iinc X0.here hx rfl (hb hby own_d_jdk_48_13_65) rfl (l' := #[.val (.ref a), .val (.ref b), .val (.int (3 : Int32)), .val (.int (2 : Int32))]) rfl k_) ?_
  show own_Go p e below _ (s₁.setTop (mkF m 68 #[.val (.ref a), .val (.ref b), .val (.int (3 : Int32)), .val (.int (2 : Int32))] []))
  refine own_st (fun u_ k_ => XS.goto X0.here hx rfl (pc0 := 68) (pc' := 49) rfl (hb hby own_d_jdk_48_13_68) (by decide) (by decide) k_) ?_
  show own_Go p e below _ (s₁.setTop (mkF m 49 #[.val (.ref a), .val (.ref b), .val (.int (3 : Int32)), .val (.int (2 : Int32))] []))
  refine own_st (fun u_ k_ => XS.iloadN X0.here hx rfl (hb hby own_d_jdk_48_13_49) rfl k_) ?_
  show own_Go p e below _ (s₁.setTop (mkF m 50 #[.val (.ref a), .val (.ref b), .val (.int (3 : Int32)), .val (.int (2 : Int32))] [(.int (2 : Int32))]))
  refine own_st (fun u_ k_ => XS.iloadN X0.here hx rfl (hb hby own_d_jdk_48_13_50) rfl k_) ?_
  show own_Go p e below _ (s₁.setTop (mkF m 51 #[.val (.ref a), .val (.ref b), .val (.int (3 : Int32)), .val (.int (2 : Int32))] [(.int (3 : Int32)), (.int (2 : Int32))]))
  refine own_st (fun u_ k_ => XS.icmpNo X0.here hx rfl (hb hby own_d_jdk_48_13_51) rfl (XT.ii_ge_f (by decide)) k_) ?_
  show own_Go p e below _ (s₁.setTop (mkF m 54 #[.val (.ref a), .val (.ref b), .val (.int (3 : Int32)), .val (.int (2 : Int32))] []))
  refine own_st (fun u_ k_ => XS.aloadN X0.here hx rfl (hb hby own_d_jdk_48_13_54) rfl rfl k_) ?_
  show own_Go p e below _ (s₁.setTop (mkF m 55 #[.val (.ref a), .val (.ref b), .val (.int (3 : Int32)), .val (.int (2 : Int32))] [(.ref a)]))
  refine own_st (fun u_ k_ => XS.iloadN X0.here hx rfl (hb hby own_d_jdk_48_13_55) rfl k_) ?_
  show own_Go p e below _ (s₁.setTop (mkF m 56 #[.val (.ref a), .val (.ref b), .val (.int (3 : Int32)), .val (.int (2 : Int32))] [(.int (2 : Int32)), (.ref a)]))
  obtain ⟨cl198, Ar198, q198, S198, N198, H198, G198⟩ := id V
  have hi198 : ¬ ((2 : Int32) < 0 ∨ cl198.slots.size ≤ ((2 : Int32)).toNatClampNeg) := inb_of S198 ⟨by decide, by decide⟩
  have ha198 : cl198.slots[((2 : Int32)).toNatClampNeg]? = some (.int v2) := H198.at hi198 rfl
  refine own_st (X0.baloadBytes hx (j := (2 : Int32)) (v := (.int v2)) (by rw [e0]; exact Ar198.1) (State.isArrayOf_alike hZ.alike Ar198.2.1) Ar198.2.2 hi198 ha198 (g := (mkF m 56 #[.val (.ref a), .val (.ref b), .val (.int (3 : Int32)), .val (.int (2 : Int32))] [(.int (2 : Int32)), (.ref a)])) rfl rfl (hb hby own_d_jdk_48_13_56)) ?_
  show own_Go p e below _ (s₁.setTop (mkF m 57 #[.val (.ref a), .val (.ref b), .val (.int (3 : Int32)), .val (.int (2 : Int32))] [(.int v2)]))
  refine own_st (fun u_ k_ => XS.aloadN X0.here hx rfl (hb hby own_d_jdk_48_13_57) rfl rfl k_) ?_
  show own_Go p e below _ (s₁.setTop (mkF m 58 #[.val (.ref a), .val (.ref b), .val (.int (3 : Int32)), .val (.int (2 : Int32))] [(.ref b), (.int v2)]))
  refine own_st (fun u_ k_ => XS.iloadN X0.here hx rfl (hb hby own_d_jdk_48_13_58) rfl k_) ?_
  show own_Go p e below _ (s₁.setTop (mkF m 59 #[.val (.ref a), .val (.ref b), .val (.int (3 : Int32)), .val (.int (2 : Int32))] [(.int (2 : Int32)), (.ref b), (.int v2)]))
  obtain ⟨cl199, Ar199, q199, S199, N199, H199, G199⟩ := id U
  have hi199 : ¬ ((2 : Int32) < 0 ∨ cl199.slots.size ≤ ((2 : Int32)).toNatClampNeg) := inb_of S199 ⟨by decide, by decide⟩
  have ha199 : cl199.slots[((2 : Int32)).toNatClampNeg]? = some (.int v2) := H199.at hi199 rfl
  refine own_st (X0.baloadBytes hx (j := (2 : Int32)) (v := (.int v2)) (by rw [e0]; exact Ar199.1) (State.isArrayOf_alike hZ.alike Ar199.2.1) Ar199.2.2 hi199 ha199 (g := (mkF m 59 #[.val (.ref a), .val (.ref b), .val (.int (3 : Int32)), .val (.int (2 : Int32))] [(.int (2 : Int32)), (.ref b), (.int v2)])) rfl rfl (hb hby own_d_jdk_48_13_59)) ?_
  show own_Go p e below _ (s₁.setTop (mkF m 60 #[.val (.ref a), .val (.ref b), .val (.int (3 : Int32)), .val (.int (2 : Int32))] [(.int v2), (.int v2)]))
  refine own_st (fun u_ k_ => XS.icmpYes X0.here hx rfl (pc0 := 60) (pc' := 65) rfl (hb hby own_d_jdk_48_13_60) rfl (XT.ii_eq_t rfl) (by decide) (by decide) k_) ?_
  show own_Go p e below _ (s₁.setTop (mkF m 65 #[.val (.ref a), .val (.ref b), .val (.int (3 : Int32)), .val (.int (2 : Int32))] []))
  refine own_st (fun u_ k_ => XS.iinc X0.here hx rfl (hb hby own_d_jdk_48_13_65) rfl (l' := #[.val (.ref a), .val (.ref b), .val (.int (3 : Int32)), .val (.int (3 : Int32))]) rfl k_) ?_
  show own_Go p e below _ (s₁.setTop (mkF m 68 #[.val (.ref a), .val (.ref b), .val (.int (3 : Int32)), .val (.int (3 : Int32))] []))
  refine own_st (fun u_ k_ => XS.goto X0.here hx rfl (pc0 := 68) (pc' := 49) rfl (hb hby own_d_jdk_48_13_68) (by decide) (by decide) k_) ?_
  show own_Go p e below _ (s₁.setTop (mkF m 49 #[.val (.ref a), .val (.ref b), .val (.int (3 : Int32)), .val (.int (3 : Int32))] []))
  refine own_st (fun u_ k_ => XS.iloadN X0.here hx rfl (hb hby own_d_jdk_48_13_49) rfl k_) ?_
  show own_Go p e below _ (s₁.setTop (mkF m 50 #[.val (.ref a), .val (.ref b), .val (.int (3 : Int32)), .val (.int (3 : Int32))] [(.int (3 : Int32))]))
  refine own_st (fun u_ k_ => XS.iloadN X0.here hx rfl (hb hby own_d_jdk_48_13_50) rfl k_) ?_
  show own_Go p e below _ (s₁.setTop (mkF m 51 #[.val (.ref a), .val (.ref b), .val (.int (3 : Int32)), .val (.int (3 : Int32))] [(.int (3 : Int32)), (.int (3 : Int32))]))
  refine own_st (fun u_ k_ => XS.icmpYes X0.here hx rfl (pc0 := 51) (pc' := 71) rfl (hb hby own_d_jdk_48_13_51) rfl (XT.ii_ge_t (by decide)) (by decide) (by decide) k_) ?_
  show own_Go p e below _ (s₁.setTop (mkF m 71 #[.val (.ref a), .val (.ref b), .val (.int (3 : Int32)), .val (.int (3 : Int32))] []))
  refine own_st (fun u_ k_ => XS.iconst X0.here hx rfl (hb hby own_d_jdk_48_13_71) k_) ?_
  show own_Go p e below _ (s₁.setTop (mkF m 72 #[.val (.ref a), .val (.ref b), .val (.int (3 : Int32)), .val (.int (3 : Int32))] [(.int (-1 : Int32))]))
  exact own_retX X0 hx hlk hret rfl (Or.inl ⟨rfl, by simp, _, rfl⟩) (hb hby own_d_jdk_48_13_72) (by decide) (by decide) (show QrmMis3_3 Z w0 wl wp mr a b ka kb v0 v1 v2 h0 n0 (some (.int (-1 : Int32))) s₁.heap _ from (by rw [e0]; exact ⟨rfl, N0, rfl⟩))
theorem own_ef_rmU3_3 (m : MethodId) (a : Addr) (b : Addr)  : entryFrame m #[(.ref a), (.ref b)] 3 = mkF m 0 #[.val (.ref a), .val (.ref b), .unset] [] := by first | (simp [entryFrame, mkF, argsToLocals, Value.category, maxLocals]; done) | rfl
def QrmU3_3 (Z : State) (w0 : Addr) (wl : Addr) (wp : Addr) (mr : Addr) (a : Addr) (b : Addr) (ka : ClassId) (kb : ClassId) (v0 : Int32) (v1 : Int32) (v2 : Int32) (h0 : Heap) (n0 : Nat) (v : Option Value) (h : Heap) (L : List Loc) : Prop := v = some (.int (0 : Int32)) ∧ Fr n0 L ∧ h = h0
set_option maxRecDepth 65536 in
set_option maxHeartbeats 40000000 in
theorem rmU3_3 (l : Launch) (Z : State) (a0 : Array Value) (hw : ∀ d ∈ tables_1, d.before a0 Z = true) (ws : List Jvm.Cond) (w0 : Addr) (wl : Addr) (wp : Addr) (mr : Addr) (hS : own_S Z w0 wl wp mr) (a : Addr) (b : Addr) (ka : ClassId) (kb : ClassId) (v0 : Int32) (v1 : Int32) (v2 : Int32) (h0 : Heap) (n0 : Nat) (O0 : Old Z n0 h0) (V : Arv Z h0 a ka .byte (3 : Int32) [(.int v0), (.int v1), (.int v2)] (.int (0 : Int32))) (U : Arv Z h0 b kb .byte (3 : Int32) [(.int v0), (.int v1), (.int v2)] (.int (0 : Int32))) (ne : a ≠ b) :
    own_Met l (⟨"java/util/Arrays", "compareUnsigned", "([B[B)I"⟩ : MethodName) jdk_65_method_201_code 3 (some .int) ws ({ frames := 1, cells := 0, slots := 0, locals := 15 } : Room) Z h0 #[(.ref a), (.ref b)] (QrmU3_3 Z w0 wl wp mr a b ka kb v0 v1 v2 h0 n0) := by
  refine own_body (plainFor_of_name own_pn_219) ?_
  intro p e s m below meth c s₁ hx hby hml hown hnm hret hlk hZ e0 X0
  have N0 := Fr.nil n0
  refine own_st (fun u_ k_ => castTop (own_ef_rmU3_3 m a b) k_) ?_
  show own_Go p e below _ (s₁.setTop (mkF m 0 #[.val (.ref a), .val (.ref b), .unset] []))
  refine own_st (fun u_ k_ => XS.aloadN X0.here hx rfl (hb hby own_d_jdk_65_201_0) rfl rfl k_) ?_
  show own_Go p e below _ (s₁.setTop (mkF m 1 #[.val (.ref a), .val (.ref b), .unset] [(.ref a)]))
  refine own_st (fun u_ k_ => XS.aloadN X0.here hx rfl (hb hby own_d_jdk_65_201_1) rfl rfl k_) ?_
  show own_Go p e below _ (s₁.setTop (mkF m 2 #[.val (.ref a), .val (.ref b), .unset] [(.ref b), (.ref a)]))
  refine own_st (fun u_ k_ => XT.acmpYes X0.here hx rfl (pc0 := 2) (pc' := 7) rfl (hb hby own_d_jdk_65_201_2) rfl rfl rfl (XT.aa_ne_t (own_rne ne)) (by decide) (by decide) k_) ?_
  show own_Go p e below _ (s₁.setTop (mkF m 7 #[.val (.ref a), .val (.ref b), .unset] []))
  refine own_st (fun u_ k_ => XS.aloadN X0.here hx rfl (hb hby own_d_jdk_65_201_7) rfl rfl k_) ?_
  show own_Go p e below _ (s₁.setTop (mkF m 8 #[.val (.ref a), .val (.ref b), .unset] [(.ref a)]))
  refine own_st (fun u_ k_ => XS.ifnullNo X0.here hx rfl (hb hby own_d_jdk_65_201_8) rfl k_) ?_
  show own_Go p e below _ (s₁.setTop (mkF m 11 #[.val (.ref a), .val (.ref b), .unset] []))
  refine own_st (fun u_ k_ => XS.aloadN X0.here hx rfl (hb hby own_d_jdk_65_201_11) rfl rfl k_) ?_
  show own_Go p e below _ (s₁.setTop (mkF m 12 #[.val (.ref a), .val (.ref b), .unset] [(.ref b)]))
  refine own_st (fun u_ k_ => XS.ifnonnullYes X0.here hx rfl (pc0 := 12) (pc' := 25) rfl (hb hby own_d_jdk_65_201_12) rfl (by decide) (by decide) k_) ?_
  show own_Go p e below _ (s₁.setTop (mkF m 25 #[.val (.ref a), .val (.ref b), .unset] []))
  refine own_st (fun u_ k_ => XS.aloadN X0.here hx rfl (hb hby own_d_jdk_65_201_25) rfl rfl k_) ?_
  show own_Go p e below _ (s₁.setTop (mkF m 26 #[.val (.ref a), .val (.ref b), .unset] [(.ref a)]))
  refine own_st (fun u_ k_ => XS.aloadN X0.here hx rfl (hb hby own_d_jdk_65_201_26) rfl rfl k_) ?_
  show own_Go p e below _ (s₁.setTop (mkF m 27 #[.val (.ref a), .val (.ref b), .unset] [(.ref b), (.ref a)]))
  refine own_st (fun u_ k_ => XS.aloadN X0.here hx rfl (hb hby own_d_jdk_65_201_27) rfl rfl k_) ?_
  show own_Go p e below _ (s₁.setTop (mkF m 28 #[.val (.ref a), .val (.ref b), .unset] [(.ref a), (.ref b), (.ref a)]))
  obtain ⟨cl200, Ar200, -, S200, N200, -, -⟩ := id V
  refine own_st (X0.arraylength hx (by rw [e0]; exact Ar200.1) (State.isArrayOf_alike hZ.alike Ar200.2.1) (g := (mkF m 28 #[.val (.ref a), .val (.ref b), .unset] [(.ref a), (.ref b), (.ref a)])) rfl rfl (hb hby own_d_jdk_65_201_28)) ?_
  rw [len_of S200 N200]
  show own_Go p e below _ (s₁.setTop (mkF m 29 #[.val (.ref a), .val (.ref b), .unset] [(.int (3 : Int32)), (.ref b), (.ref a)]))
  refine own_st (fun u_ k_ => XS.aloadN X0.here hx rfl (hb hby own_d_jdk_65_201_29) rfl rfl k_) ?_
  show own_Go p e below _ (s₁.setTop (mkF m 30 #[.val (.ref a), .val (.ref b), .unset] [(.ref b), (.int (3 : Int32)), (.ref b), (.ref a)]))
  obtain ⟨cl201, Ar201, -, S201, N201, -, -⟩ := id U
  refine own_st (X0.arraylength hx (by rw [e0]; exact Ar201.1) (State.isArrayOf_alike hZ.alike Ar201.2.1) (g := (mkF m 30 #[.val (.ref a), .val (.ref b), .unset] [(.ref b), (.int (3 : Int32)), (.ref b), (.ref a)])) rfl rfl (hb hby own_d_jdk_65_201_30)) ?_
  rw [len_of S201 N201]
  show own_Go p e below _ (s₁.setTop (mkF m 31 #[.val (.ref a), .val (.ref b), .unset] [(.int (3 : Int32)), (.int (3 : Int32)), (.ref b), (.ref a)]))
  obtain ⟨T202, v202, L202, X202, hQ202, st202⟩ := own_callS X0 hx hZ (y := (⟨"java/lang/Math", "min", "(II)I"⟩ : MethodName)) hown (hw _ (List.mem_of_getElem? (i := 103) rfl)) (hw _ (List.mem_of_getElem? (i := 104) rfl)) (hw _ (List.mem_of_getElem? (i := 105) rfl)) (hw _ (List.mem_of_getElem? (i := 106) rfl)) own_lm_205 (rmMin3_3 l Z a0 hw [] w0 wl wp mr hS  h0 n0 O0 ) e0 own_pd_206 (argsL := [(.int (3 : Int32)), (.int (3 : Int32))]) (rest := [(.ref b), (.ref a)]) rfl rfl (g := (mkF m 31 #[.val (.ref a), .val (.ref b), .unset] [(.int (3 : Int32)), (.int (3 : Int32)), (.ref b), (.ref a)])) rfl (by rw [hml]; rfl) rfl (hb hby own_d_jdk_65_201_31) (W := 2) rfl (by decide) (by decide) (by decide) (by decide)
  obtain ⟨rfl, M202, e202⟩ := hQ202
  have N202 := Fr.app N0 M202
  refine own_st (fun u_ k_ => st202 u_ k_) ?_
  show own_Go p e below _ (T202.setTop (mkF m 34 #[.val (.ref a), .val (.ref b), .unset] [(.int (3 : Int32)), (.ref b), (.ref a)]))
  obtain ⟨T203, v203, L203, X203, hQ203, st203⟩ := own_callS X202 hx hZ (y := (⟨"jdk/internal/util/ArraysSupport", "mismatch", "([B[BI)I"⟩ : MethodName)) hown (hw _ (List.mem_of_getElem? (i := 107) rfl)) (hw _ (List.mem_of_getElem? (i := 108) rfl)) (hw _ (List.mem_of_getElem? (i := 109) rfl)) (hw _ (List.mem_of_getElem? (i := 110) rfl)) own_lm_208 (rmMis3_3 l Z a0 hw [] w0 wl wp mr hS a b ka kb v0 v1 v2 h0 n0 O0 V U) e202 own_pd_209 (argsL := [(.ref a), (.ref b), (.int (3 : Int32))]) (rest := []) rfl rfl (g := (mkF m 34 #[.val (.ref a), .val (.ref b), .unset] [(.int (3 : Int32)), (.ref b), (.ref a)])) rfl (by rw [hml]; rfl) rfl (hb hby own_d_jdk_65_201_34) (W := 0) rfl (by decide) (by decide) (by decide) (by decide)
  obtain ⟨rfl, M203, e203⟩ := hQ203
  have N203 := Fr.app N202 M203
  refine own_st (fun u_ k_ => st203 u_ k_) ?_
  show own_Go p e below _ (T203.setTop (mkF m 37 #[.val (.ref a), .val (.ref b), .unset] [(.int (-1 : Int32))]))
  refine own_st (fun u_ k_ => XS.istoreN X203.here hx rfl (hb hby own_d_jdk_65_201_37) rfl (l' := #[.val (.ref a), .val (.ref b), .val (.int (-1 : Int32))]) rfl k_) ?_
  show own_Go p e below _ (T203.setTop (mkF m 38 #[.val (.ref a), .val (.ref b), .val (.int (-1 : Int32))] []))
  refine own_st (fun u_ k_ => XS.iloadN X203.here hx rfl (hb hby own_d_jdk_65_201_38) rfl k_) ?_
  show own_Go p e below _ (T203.setTop (mkF m 39 #[.val (.ref a), .val (.ref b), .val (.int (-1 : Int32))] [(.int (-1 : Int32))]))
  refine own_st (fun u_ k_ => XS.ifYes X203.here hx rfl (pc0 := 39) (pc' := 52) rfl (hb hby own_d_jdk_65_201_39) rfl (XT.i0_lt_t (by decide)) (by decide) (by decide) k_) ?_
  show own_Go p e below _ (T203.setTop (mkF m 52 #[.val (.ref a), .val (.ref b), .val (.int (-1 : Int32))] []))
  refine own_st (fun u_ k_ => XS.aloadN X203.here hx rfl (hb hby own_d_jdk_65_201_52) rfl rfl k_) ?_
  show own_Go p e below _ (T203.setTop (mkF m 53 #[.val (.ref a), .val (.ref b), .val (.int (-1 : Int32))] [(.ref a)]))
  obtain ⟨cl204, Ar204, -, S204, N204, -, -⟩ := id V
  refine own_st (X203.arraylength hx (by rw [e203]; exact Ar204.1) (State.isArrayOf_alike hZ.alike Ar204.2.1) (g := (mkF m 53 #[.val (.ref a), .val (.ref b), .val (.int (-1 : Int32))] [(.ref a)])) rfl rfl (hb hby own_d_jdk_65_201_53)) ?_
  rw [len_of S204 N204]
  show own_Go p e below _ (T203.setTop (mkF m 54 #[.val (.ref a), .val (.ref b), .val (.int (-1 : Int32))] [(.int (3 : Int32))]))
  refine own_st (fun u_ k_ => XS.aloadN X203.here hx rfl (hb hby own_d_jdk_65_201_54) rfl rfl k_) ?_
  show own_Go p e below _ (T203.setTop (mkF m 55 #[.val (.ref a), .val (.ref b), .val (.int (-1 : Int32))] [(.ref b), (.int (3 : Int32))]))
  obtain ⟨cl205, Ar205, -, S205, N205, -, -⟩ := id U
  refine own_st (X203.arraylength hx (by rw [e203]; exact Ar205.1) (State.isArrayOf_alike hZ.alike Ar205.2.1) (g := (mkF m 55 #[.val (.ref a), .val (.ref b), .val (.int (-1 : Int32))] [(.ref b), (.int (3 : Int32))])) rfl rfl (hb hby own_d_jdk_65_201_55)) ?_
  rw [len_of S205 N205]
  show own_Go p e below _ (T203.setTop (mkF m 56 #[.val (.ref a), .val (.ref b), .val (.int (-1 : Int32))] [(.int (3 : Int32)), (.int (3 : Int32))]))
  refine own_st (fun u_ k_ => XS.isub X203.here hx rfl (hb hby own_d_jdk_65_201_56) rfl k_) ?_
  show own_Go p e below _ (T203.setTop (mkF m 57 #[.val (.ref a), .val (.ref b), .val (.int (-1 : Int32))] [(.int (0 : Int32))]))
  exact own_retX X203 hx hlk hret rfl (Or.inl ⟨rfl, by simp, _, rfl⟩) (hb hby own_d_jdk_65_201_57) (by decide) (by decide) (show QrmU3_3 Z w0 wl wp mr a b ka kb v0 v1 v2 h0 n0 (some (.int (0 : Int32))) T203.heap _ from (by rw [e203]; exact ⟨rfl, N203, rfl⟩))
theorem own_ef_rmV3_3 (m : MethodId) (pp : Addr) (qq : Addr)  : entryFrame m #[(.ref pp), (.ref qq)] 3 = mkF m 0 #[.val (.ref pp), .val (.ref qq), .unset] [] := by first | (simp [entryFrame, mkF, argsToLocals, Value.category, maxLocals]; done) | rfl
def QrmV3_3 (Z : State) (w0 : Addr) (wl : Addr) (wp : Addr) (mr : Addr) (pp : Addr) (qq : Addr) (a : Addr) (b : Addr) (ka : ClassId) (kb : ClassId) (v0 : Int32) (v1 : Int32) (v2 : Int32) (h0 : Heap) (n0 : Nat) (v : Option Value) (h : Heap) (L : List Loc) : Prop := v = some (.int (0 : Int32)) ∧ Fr n0 L ∧ h = h0
set_option maxRecDepth 65536 in
set_option maxHeartbeats 40000000 in
theorem rmV3_3 (l : Launch) (Z : State) (a0 : Array Value) (hw : ∀ d ∈ tables_1, d.before a0 Z = true) (ws : List Jvm.Cond) (w0 : Addr) (wl : Addr) (wp : Addr) (mr : Addr) (hS : own_S Z w0 wl wp mr) (pp : Addr) (qq : Addr) (a : Addr) (b : Addr) (ka : ClassId) (kb : ClassId) (v0 : Int32) (v1 : Int32) (v2 : Int32) (h0 : Heap) (n0 : Nat) (O0 : Old Z n0 h0) (Ep : Exa Z h0 pp "com/example/tasdik/tasdik/core/cbor/CborValue") (Eq : Exa Z h0 qq "com/example/tasdik/tasdik/core/cbor/CborValue") (T1 : Fld Z h0 pp "com/example/tasdik/tasdik/core/cbor/CborValue" "type" "Lcom/example/tasdik/tasdik/core/cbor/CborValue$Type;" (.ref w0)) (T2 : Fld Z h0 qq "com/example/tasdik/tasdik/core/cbor/CborValue" "type" "Lcom/example/tasdik/tasdik/core/cbor/CborValue$Type;" (.ref w0)) (B1 : Fld Z h0 pp "com/example/tasdik/tasdik/core/cbor/CborValue" "bytes" "[B" (.ref a)) (B2 : Fld Z h0 qq "com/example/tasdik/tasdik/core/cbor/CborValue" "bytes" "[B" (.ref b)) (V : Arv Z h0 a ka .byte (3 : Int32) [(.int v0), (.int v1), (.int v2)] (.int (0 : Int32))) (U : Arv Z h0 b kb .byte (3 : Int32) [(.int v0), (.int v1), (.int v2)] (.int (0 : Int32))) (ne : a ≠ b) :
    own_Met l (⟨"com/example/tasdik/tasdik/core/cbor/CborValue", "compare", "(Lcom/example/tasdik/tasdik/core/cbor/CborValue;Lcom/example/tasdik/tasdik/core/cbor/CborValue;)I"⟩ : MethodName) prog_21_method_18_code 3 (some .int) ws ({ frames := 2, cells := 0, slots := 0, locals := 43 } : Room) Z h0 #[(.ref pp), (.ref qq)] (QrmV3_3 Z w0 wl wp mr pp qq a b ka kb v0 v1 v2 h0 n0) := by
  refine own_body (plainFor_of_name own_pn_119) ?_
  intro p e s m below meth c s₁ hx hby hml hown hnm hret hlk hZ e0 X0
  have N0 := Fr.nil n0
  refine own_st (fun u_ k_ => castTop (own_ef_rmV3_3 m pp qq) k_) ?_
  show own_Go p e below _ (s₁.setTop (mkF m 0 #[.val (.ref pp), .val (.ref qq), .unset] []))
  refine own_st (fun u_ k_ => XS.aloadN X0.here hx rfl (hb hby own_d_prog_21_18_0) rfl rfl k_) ?_
  show own_Go p e below _ (s₁.setTop (mkF m 1 #[.val (.ref pp), .val (.ref qq), .unset] [(.ref pp)]))
  obtain ⟨T206, X206, e206, st206⟩ := getF X0 hx hZ hown (host := "") (Or.inl (hw _ (List.mem_of_getElem? (i := 31) rfl))) Via.refl e0 T1 (g := (mkF m 1 #[.val (.ref pp), .val (.ref qq), .unset] [(.ref pp)])) rfl rfl (hb hby own_d_prog_21_18_1)
  refine own_st (fun u_ k_ => st206 u_ k_) ?_
  show own_Go p e below _ (T206.setTop (mkF m 4 #[.val (.ref pp), .val (.ref qq), .unset] [(.ref w0)]))
  refine own_st (fun u_ k_ => XS.aloadN X206.here hx rfl (hb hby own_d_prog_21_18_4) rfl rfl k_) ?_
  show own_Go p e below _ (T206.setTop (mkF m 5 #[.val (.ref pp), .val (.ref qq), .unset] [(.ref qq), (.ref w0)]))
  obtain ⟨T207, X207, e207, st207⟩ := getF X206 hx hZ hown (host := "") (Or.inl (hw _ (List.mem_of_getElem? (i := 31) rfl))) Via.refl e206 T2 (g := (mkF m 5 #[.val (.ref pp), .val (.ref qq), .unset] [(.ref qq), (.ref w0)])) rfl rfl (hb hby own_d_prog_21_18_5)
  refine own_st (fun u_ k_ => st207 u_ k_) ?_
  show own_Go p e below _ (T207.setTop (mkF m 8 #[.val (.ref pp), .val (.ref qq), .unset] [(.ref w0), (.ref w0)]))
  have F208 : Exa Z h0 w0 "com/example/tasdik/tasdik/core/cbor/CborValue$Type" := Exa.ext O0.2 hS.2.1
  have F209 : Fld Z h0 w0 "java/lang/Enum" "ordinal" "I" (.int (1 : Int32)) := Fld.ext O0.2 hS.2.2.1
  obtain ⟨T210, v210, L210, X210, hQ210, st210⟩ := own_callU X207 hx hZ (y := (⟨"com/example/tasdik/tasdik/core/cbor/CborValue$Type", "compareTo", "(Ljava/lang/Enum;)I"⟩ : MethodName)) (z := (⟨"java/lang/Enum", "compareTo", "(Ljava/lang/Enum;)I"⟩ : MethodName)) hown (hw _ (List.mem_of_getElem? (i := 78) rfl)) (hw _ (List.mem_of_getElem? (i := 79) rfl)) (hw _ (List.mem_of_getElem? (i := 80) rfl)) (hw _ (List.mem_of_getElem? (i := 82) rfl)) (hw _ (List.mem_of_getElem? (i := 81) rfl)) (hw _ (List.mem_of_getElem? (i := 83) rfl)) (hw _ (List.mem_of_getElem? (i := 84) rfl)) own_lm_225 (rmC l Z a0 hw [] w0 wl wp mr hS w0 (1 : Int32) h0 n0 O0 F208 F209) e207 F208 own_pd_226 (argsL := [(.ref w0)]) (rest := []) rfl rfl (g := (mkF m 8 #[.val (.ref pp), .val (.ref qq), .unset] [(.ref w0), (.ref w0)])) rfl (by rw [hml]; rfl) rfl (hb hby own_d_prog_21_18_8) (W := 0) rfl (by decide) (by decide) (by decide) (by decide)
  obtain ⟨rfl, M210, e210⟩ := hQ210
  have N210 := Fr.app N0 M210
  refine own_st (fun u_ k_ => st210 u_ k_) ?_
  show own_Go p e below _ (T210.setTop (mkF m 11 #[.val (.ref pp), .val (.ref qq), .unset] [(.int ((1 : Int32) - (1 : Int32)))]))
  refine own_st (fun u_ k_ => XS.istoreN X210.here hx rfl (hb hby own_d_prog_21_18_11) rfl (l' := #[.val (.ref pp), .val (.ref qq), .val (.int ((1 : Int32) - (1 : Int32)))]) rfl k_) ?_
  show own_Go p e below _ (T210.setTop (mkF m 12 #[.val (.ref pp), .val (.ref qq), .val (.int ((1 : Int32) - (1 : Int32)))] []))
  refine own_st (fun u_ k_ => XS.iloadN X210.here hx rfl (hb hby own_d_prog_21_18_12) rfl k_) ?_
  show own_Go p e below _ (T210.setTop (mkF m 13 #[.val (.ref pp), .val (.ref qq), .val (.int ((1 : Int32) - (1 : Int32)))] [(.int ((1 : Int32) - (1 : Int32)))]))
  refine own_st (fun u_ k_ => XS.ifNo X210.here hx rfl (hb hby own_d_prog_21_18_13) rfl (XT.i0_ne_f (by decide)) k_) ?_
  show own_Go p e below _ (T210.setTop (mkF m 16 #[.val (.ref pp), .val (.ref qq), .val (.int ((1 : Int32) - (1 : Int32)))] []))
  refine own_st (fun u_ k_ => XS.aloadN X210.here hx rfl (hb hby own_d_prog_21_18_16) rfl rfl k_) ?_
  show own_Go p e below _ (T210.setTop (mkF m 17 #[.val (.ref pp), .val (.ref qq), .val (.int ((1 : Int32) - (1 : Int32)))] [(.ref pp)]))
  obtain ⟨T211, X211, e211, st211⟩ := getF X210 hx hZ hown (host := "") (Or.inl (hw _ (List.mem_of_getElem? (i := 31) rfl))) Via.refl e210 T1 (g := (mkF m 17 #[.val (.ref pp), .val (.ref qq), .val (.int ((1 : Int32) - (1 : Int32)))] [(.ref pp)])) rfl rfl (hb hby own_d_prog_21_18_17)
  refine own_st (fun u_ k_ => st211 u_ k_) ?_
  show own_Go p e below _ (T211.setTop (mkF m 20 #[.val (.ref pp), .val (.ref qq), .val (.int ((1 : Int32) - (1 : Int32)))] [(.ref w0)]))
  obtain ⟨T212, v212, L212, X212, hQ212, st212⟩ := own_callU X211 hx hZ (y := (⟨"com/example/tasdik/tasdik/core/cbor/CborValue$Type", "ordinal", "()I"⟩ : MethodName)) (z := (⟨"java/lang/Enum", "ordinal", "()I"⟩ : MethodName)) hown (hw _ (List.mem_of_getElem? (i := 93) rfl)) (hw _ (List.mem_of_getElem? (i := 94) rfl)) (hw _ (List.mem_of_getElem? (i := 95) rfl)) (hw _ (List.mem_of_getElem? (i := 97) rfl)) (hw _ (List.mem_of_getElem? (i := 96) rfl)) (hw _ (List.mem_of_getElem? (i := 83) rfl)) (hw _ (List.mem_of_getElem? (i := 98) rfl)) own_lm_225 (rmO l Z a0 hw [] w0 wl wp mr hS w0 (1 : Int32) h0 n0 O0 F209) e211 F208 own_pd_233 (argsL := []) (rest := []) rfl rfl (g := (mkF m 20 #[.val (.ref pp), .val (.ref qq), .val (.int ((1 : Int32) - (1 : Int32)))] [(.ref w0)])) rfl (by rw [hml]; rfl) rfl (hb hby own_d_prog_21_18_20) (W := 0) rfl (by decide) (by decide) (by decide) (by decide)
  obtain ⟨rfl, M212, e212⟩ := hQ212
  have N212 := Fr.app N210 M212
  refine own_st (fun u_ k_ => st212 u_ k_) ?_
  show own_Go p e below _ (T212.setTop (mkF m 23 #[.val (.ref pp), .val (.ref qq), .val (.int ((1 : Int32) - (1 : Int32)))] [(.int (1 : Int32))]))
  refine own_st (fun u_ k_ => XS.tswIn X212.here hx rfl (pc0 := 23) (pc' := 92) (o := 69) rfl (hb hby own_d_prog_21_18_23) rfl (by decide) (by decide) (by decide) (by decide) k_) ?_
  show own_Go p e below _ (T212.setTop (mkF m 92 #[.val (.ref pp), .val (.ref qq), .val (.int ((1 : Int32) - (1 : Int32)))] []))
  refine own_st (fun u_ k_ => XS.aloadN X212.here hx rfl (hb hby own_d_prog_21_18_92) rfl rfl k_) ?_
  show own_Go p e below _ (T212.setTop (mkF m 93 #[.val (.ref pp), .val (.ref qq), .val (.int ((1 : Int32) - (1 : Int32)))] [(.ref pp)]))
  obtain ⟨T213, X213, e213, st213⟩ := getF X212 hx hZ hown (host := "") (Or.inl (hw _ (List.mem_of_getElem? (i := 37) rfl))) Via.refl e212 B1 (g := (mkF m 93 #[.val (.ref pp), .val (.ref qq), .val (.int ((1 : Int32) - (1 : Int32)))] [(.ref pp)])) rfl rfl (hb hby own_d_prog_21_18_93)
  refine own_st (fun u_ k_ => st213 u_ k_) ?_
  show own_Go p e below _ (T213.setTop (mkF m 96 #[.val (.ref pp), .val (.ref qq), .val (.int ((1 : Int32) - (1 : Int32)))] [(.ref a)]))
  refine own_st (fun u_ k_ => XS.aloadN X213.here hx rfl (hb hby own_d_prog_21_18_96) rfl rfl k_) ?_
  show own_Go p e below _ (T213.setTop (mkF m 97 #[.val (.ref pp), .val (.ref qq), .val (.int ((1 : Int32) - (1 : Int32)))] [(.ref qq), (.ref a)]))
  obtain ⟨T214, X214, e214, st214⟩ := getF X213 hx hZ hown (host := "") (Or.inl (hw _ (List.mem_of_getElem? (i := 37) rfl))) Via.refl e213 B2 (g := (mkF m 97 #[.val (.ref pp), .val (.ref qq), .val (.int ((1 : Int32) - (1 : Int32)))] [(.ref qq), (.ref a)])) rfl rfl (hb hby own_d_prog_21_18_97)
  refine own_st (fun u_ k_ => st214 u_ k_) ?_
  show own_Go p e below _ (T214.setTop (mkF m 100 #[.val (.ref pp), .val (.ref qq), .val (.int ((1 : Int32) - (1 : Int32)))] [(.ref b), (.ref a)]))
  obtain ⟨T215, v215, L215, X215, hQ215, st215⟩ := own_callS X214 hx hZ (y := (⟨"java/util/Arrays", "compareUnsigned", "([B[B)I"⟩ : MethodName)) hown (hw _ (List.mem_of_getElem? (i := 99) rfl)) (hw _ (List.mem_of_getElem? (i := 100) rfl)) (hw _ (List.mem_of_getElem? (i := 101) rfl)) (hw _ (List.mem_of_getElem? (i := 102) rfl)) own_lm_240 (rmU3_3 l Z a0 hw [] w0 wl wp mr hS a b ka kb v0 v1 v2 h0 n0 O0 V U ne) e214 own_pd_241 (argsL := [(.ref a), (.ref b)]) (rest := []) rfl rfl (g := (mkF m 100 #[.val (.ref pp), .val (.ref qq), .val (.int ((1 : Int32) - (1 : Int32)))] [(.ref b), (.ref a)])) rfl (by rw [hml]; rfl) rfl (hb hby own_d_prog_21_18_100) (W := 0) rfl (by decide) (by decide) (by decide) (by decide)
  obtain ⟨rfl, M215, e215⟩ := hQ215
  have N215 := Fr.app N212 M215
  refine own_st (fun u_ k_ => st215 u_ k_) ?_
  show own_Go p e below _ (T215.setTop (mkF m 103 #[.val (.ref pp), .val (.ref qq), .val (.int ((1 : Int32) - (1 : Int32)))] [(.int (0 : Int32))]))
  refine own_st (fun u_ k_ => XS.goto X215.here hx rfl (pc0 := 103) (pc' := 187) rfl (hb hby own_d_prog_21_18_103) (by decide) (by decide) k_) ?_
  show own_Go p e below _ (T215.setTop (mkF m 187 #[.val (.ref pp), .val (.ref qq), .val (.int ((1 : Int32) - (1 : Int32)))] [(.int (0 : Int32))]))
  refine own_st (fun u_ k_ => XS.istoreN X215.here hx rfl (hb hby own_d_prog_21_18_187) rfl (l' := #[.val (.ref pp), .val (.ref qq), .val (.int (0 : Int32))]) rfl k_) ?_
  show own_Go p e below _ (T215.setTop (mkF m 188 #[.val (.ref pp), .val (.ref qq), .val (.int (0 : Int32))] []))
  refine own_st (fun u_ k_ => XS.iloadN X215.here hx rfl (hb hby own_d_prog_21_18_188) rfl k_) ?_
  show own_Go p e below _ (T215.setTop (mkF m 189 #[.val (.ref pp), .val (.ref qq), .val (.int (0 : Int32))] [(.int (0 : Int32))]))
  exact own_retX X215 hx hlk hret rfl (Or.inl ⟨rfl, by simp, _, rfl⟩) (hb hby own_d_prog_21_18_189) (by decide) (by decide) (show QrmV3_3 Z w0 wl wp mr pp qq a b ka kb v0 v1 v2 h0 n0 (some (.int (0 : Int32))) T215.heap _ from (by rw [e215]; exact ⟨rfl, N215, rfl⟩))
theorem own_ef_rmE3_3 (m : MethodId) (pp : Addr) (qq : Addr)  : entryFrame m #[(.ref pp), (.ref qq)] 3 = mkF m 0 #[.val (.ref pp), .val (.ref qq), .unset] [] := by first | (simp [entryFrame, mkF, argsToLocals, Value.category, maxLocals]; done) | rfl
def QrmE3_3 (Z : State) (w0 : Addr) (wl : Addr) (wp : Addr) (mr : Addr) (pp : Addr) (qq : Addr) (a : Addr) (b : Addr) (ka : ClassId) (kb : ClassId) (v0 : Int32) (v1 : Int32) (v2 : Int32) (h0 : Heap) (n0 : Nat) (v : Option Value) (h : Heap) (L : List Loc) : Prop := v = some (.int (1 : Int32)) ∧ Fr n0 L ∧ h = h0
set_option maxRecDepth 65536 in
set_option maxHeartbeats 40000000 in
theorem rmE3_3 (l : Launch) (Z : State) (a0 : Array Value) (hw : ∀ d ∈ tables_1, d.before a0 Z = true) (ws : List Jvm.Cond) (w0 : Addr) (wl : Addr) (wp : Addr) (mr : Addr) (hS : own_S Z w0 wl wp mr) (pp : Addr) (qq : Addr) (a : Addr) (b : Addr) (ka : ClassId) (kb : ClassId) (v0 : Int32) (v1 : Int32) (v2 : Int32) (h0 : Heap) (n0 : Nat) (O0 : Old Z n0 h0) (Ep : Exa Z h0 pp "com/example/tasdik/tasdik/core/cbor/CborValue") (Eq : Exa Z h0 qq "com/example/tasdik/tasdik/core/cbor/CborValue") (T1 : Fld Z h0 pp "com/example/tasdik/tasdik/core/cbor/CborValue" "type" "Lcom/example/tasdik/tasdik/core/cbor/CborValue$Type;" (.ref w0)) (T2 : Fld Z h0 qq "com/example/tasdik/tasdik/core/cbor/CborValue" "type" "Lcom/example/tasdik/tasdik/core/cbor/CborValue$Type;" (.ref w0)) (B1 : Fld Z h0 pp "com/example/tasdik/tasdik/core/cbor/CborValue" "bytes" "[B" (.ref a)) (B2 : Fld Z h0 qq "com/example/tasdik/tasdik/core/cbor/CborValue" "bytes" "[B" (.ref b)) (V : Arv Z h0 a ka .byte (3 : Int32) [(.int v0), (.int v1), (.int v2)] (.int (0 : Int32))) (U : Arv Z h0 b kb .byte (3 : Int32) [(.int v0), (.int v1), (.int v2)] (.int (0 : Int32))) (ne : a ≠ b) :
    own_Met l (⟨"com/example/tasdik/tasdik/core/cbor/CborValue", "equals", "(Ljava/lang/Object;)Z"⟩ : MethodName) prog_21_method_16_code 3 (some .boolean) ws ({ frames := 3, cells := 0, slots := 0, locals := 57 } : Room) Z h0 #[(.ref pp), (.ref qq)] (QrmE3_3 Z w0 wl wp mr pp qq a b ka kb v0 v1 v2 h0 n0) := by
  refine own_body (plainFor_of_name own_pn_119) ?_
  intro p e s m below meth c s₁ hx hby hml hown hnm hret hlk hZ e0 X0
  have N0 := Fr.nil n0
  refine own_st (fun u_ k_ => castTop (own_ef_rmE3_3 m pp qq) k_) ?_
  show own_Go p e below _ (s₁.setTop (mkF m 0 #[.val (.ref pp), .val (.ref qq), .unset] []))
  refine own_st (fun u_ k_ => XS.aloadN X0.here hx rfl (hb hby own_d_prog_21_16_0) rfl rfl k_) ?_
  show own_Go p e below _ (s₁.setTop (mkF m 1 #[.val (.ref pp), .val (.ref qq), .unset] [(.ref qq)]))
  obtain ⟨T216, X216, e216, st216⟩ := instY X0 hx hZ hown (hw _ (List.mem_of_getElem? (i := 9) rfl)) e0 (Ins.self Eq) (g := (mkF m 1 #[.val (.ref pp), .val (.ref qq), .unset] [(.ref qq)])) rfl rfl (hb hby own_d_prog_21_16_1)
  refine own_st (fun u_ k_ => st216 u_ k_) ?_
  show own_Go p e below _ (T216.setTop (mkF m 4 #[.val (.ref pp), .val (.ref qq), .unset] [(.int (1 : Int32))]))
  refine own_st (fun u_ k_ => XS.ifNo X216.here hx rfl (hb hby own_d_prog_21_16_4) rfl (XT.i0_eq_f (by decide)) k_) ?_
  show own_Go p e below _ (T216.setTop (mkF m 7 #[.val (.ref pp), .val (.ref qq), .unset] []))
  refine own_st (fun u_ k_ => XS.aloadN X216.here hx rfl (hb hby own_d_prog_21_16_7) rfl rfl k_) ?_
  show own_Go p e below _ (T216.setTop (mkF m 8 #[.val (.ref pp), .val (.ref qq), .unset] [(.ref qq)]))
  obtain ⟨T217, X217, e217, st217⟩ := castY X216 hx hZ hown (hw _ (List.mem_of_getElem? (i := 9) rfl)) e216 (Ins.self Eq) (g := (mkF m 8 #[.val (.ref pp), .val (.ref qq), .unset] [(.ref qq)])) rfl rfl (hb hby own_d_prog_21_16_8)
  refine own_st (fun u_ k_ => st217 u_ k_) ?_
  show own_Go p e below _ (T217.setTop (mkF m 11 #[.val (.ref pp), .val (.ref qq), .unset] [(.ref qq)]))
  refine own_st (fun u_ k_ => XS.astoreN X217.here hx rfl (hb hby own_d_prog_21_16_11) rfl rfl (l' := #[.val (.ref pp), .val (.ref qq), .val (.ref qq)]) rfl k_) ?_
  show own_Go p e below _ (T217.setTop (mkF m 12 #[.val (.ref pp), .val (.ref qq), .val (.ref qq)] []))
  refine own_st (fun u_ k_ => XS.aloadN X217.here hx rfl (hb hby own_d_prog_21_16_12) rfl rfl k_) ?_
  show own_Go p e below _ (T217.setTop (mkF m 13 #[.val (.ref pp), .val (.ref qq), .val (.ref qq)] [(.ref pp)]))
  refine own_st (fun u_ k_ => XS.aloadN X217.here hx rfl (hb hby own_d_prog_21_16_13) rfl rfl k_) ?_
  show own_Go p e below _ (T217.setTop (mkF m 14 #[.val (.ref pp), .val (.ref qq), .val (.ref qq)] [(.ref qq), (.ref pp)]))
  obtain ⟨T218, v218, L218, X218, hQ218, st218⟩ := own_callS X217 hx hZ (y := (⟨"com/example/tasdik/tasdik/core/cbor/CborValue", "compare", "(Lcom/example/tasdik/tasdik/core/cbor/CborValue;Lcom/example/tasdik/tasdik/core/cbor/CborValue;)I"⟩ : MethodName)) hown (hw _ (List.mem_of_getElem? (i := 75) rfl)) (hw _ (List.mem_of_getElem? (i := 76) rfl)) (hw _ (List.mem_of_getElem? (i := 7) rfl)) (hw _ (List.mem_of_getElem? (i := 77) rfl)) own_lm_134 (rmV3_3 l Z a0 hw [] w0 wl wp mr hS pp qq a b ka kb v0 v1 v2 h0 n0 O0 Ep Eq T1 T2 B1 B2 V U ne) e217 own_pd_255 (argsL := [(.ref pp), (.ref qq)]) (rest := []) rfl rfl (g := (mkF m 14 #[.val (.ref pp), .val (.ref qq), .val (.ref qq)] [(.ref qq), (.ref pp)])) rfl (by rw [hml]; rfl) rfl (hb hby own_d_prog_21_16_14) (W := 0) rfl (by decide) (by decide) (by decide) (by decide)
  obtain ⟨rfl, M218, e218⟩ := hQ218
  have N218 := Fr.app N0 M218
  refine own_st (fun u_ k_ => st218 u_ k_) ?_
  show own_Go p e below _ (T218.setTop (mkF m 17 #[.val (.ref pp), .val (.ref qq), .val (.ref qq)] [(.int (0 : Int32))]))
  refine own_st (fun u_ k_ => XS.ifNo X218.here hx rfl (hb hby own_d_prog_21_16_17) rfl (XT.i0_ne_f (by decide)) k_) ?_
  show own_Go p e below _ (T218.setTop (mkF m 20 #[.val (.ref pp), .val (.ref qq), .val (.ref qq)] []))
  refine own_st (fun u_ k_ => XS.iconst X218.here hx rfl (hb hby own_d_prog_21_16_20) k_) ?_
  show own_Go p e below _ (T218.setTop (mkF m 21 #[.val (.ref pp), .val (.ref qq), .val (.ref qq)] [(.int (1 : Int32))]))
  refine own_st (fun u_ k_ => XS.goto X218.here hx rfl (pc0 := 21) (pc' := 25) rfl (hb hby own_d_prog_21_16_21) (by decide) (by decide) k_) ?_
  show own_Go p e below _ (T218.setTop (mkF m 25 #[.val (.ref pp), .val (.ref qq), .val (.ref qq)] [(.int (1 : Int32))]))
  exact own_retX X218 hx hlk hret rfl (Or.inl ⟨rfl, by simp, _, rfl⟩) (hb hby own_d_prog_21_16_25) (by decide) (by decide) (show QrmE3_3 Z w0 wl wp mr pp qq a b ka kb v0 v1 v2 h0 n0 (some (.int (1 : Int32))) T218.heap _ from (by rw [e218]; exact ⟨rfl, N218, rfl⟩))
theorem own_ef_rmMin0_1 (m : MethodId)   : entryFrame m #[(.int (0 : Int32)), (.int (1 : Int32))] 2 = mkF m 0 #[.val (.int (0 : Int32)), .val (.int (1 : Int32))] [] := by first | (simp [entryFrame, mkF, argsToLocals, Value.category, maxLocals]; done) | rfl
def QrmMin0_1 (Z : State) (w0 : Addr) (wl : Addr) (wp : Addr) (mr : Addr)  (h0 : Heap) (n0 : Nat) (v : Option Value) (h : Heap) (L : List Loc) : Prop := v = some (.int (0 : Int32)) ∧ Fr n0 L ∧ h = h0
set_option maxRecDepth 65536 in
set_option maxHeartbeats 40000000 in
theorem rmMin0_1 (l : Launch) (Z : State) (a0 : Array Value) (hw : ∀ d ∈ tables_1, d.before a0 Z = true) (ws : List Jvm.Cond) (w0 : Addr) (wl : Addr) (wp : Addr) (mr : Addr) (hS : own_S Z w0 wl wp mr)  (h0 : Heap) (n0 : Nat) (O0 : Old Z n0 h0)  :
    own_Met l (⟨"java/lang/Math", "min", "(II)I"⟩ : MethodName) jdk_29_method_69_code 2 (some .int) ws ({ frames := 0, cells := 0, slots := 0, locals := 0 } : Room) Z h0 #[(.int (0 : Int32)), (.int (1 : Int32))] (QrmMin0_1 Z w0 wl wp mr  h0 n0) := by
  refine own_body own_pf_179 ?_
  intro p e s m below meth c s₁ hx hby hml hown hnm hret hlk hZ e0 X0
  have N0 := Fr.nil n0
  refine own_st (fun u_ k_ => castTop (own_ef_rmMin0_1 m ) k_) ?_
  show own_Go p e below _ (s₁.setTop (mkF m 0 #[.val (.int (0 : Int32)), .val (.int (1 : Int32))] []))
  refine own_st (fun u_ k_ => XS.iloadN X0.here hx rfl (hb hby own_d_jdk_29_69_0) rfl k_) ?_
  show own_Go p e below _ (s₁.setTop (mkF m 1 #[.val (.int (0 : Int32)), .val (.int (1 : Int32))] [(.int (0 : Int32))]))
  refine own_st (fun u_ k_ => XS.iloadN X0.here hx rfl (hb hby own_d_jdk_29_69_1) rfl k_) ?_
  show own_Go p e below _ (s₁.setTop (mkF m 2 #[.val (.int (0 : Int32)), .val (.int (1 : Int32))] [(.int (1 : Int32)), (.int (0 : Int32))]))
  refine own_st (fun u_ k_ => XS.icmpNo X0.here hx rfl (hb hby own_d_jdk_29_69_2) rfl (XT.ii_gt_f (by decide)) k_) ?_
  show own_Go p e below _ (s₁.setTop (mkF m 5 #[.val (.int (0 : Int32)), .val (.int (1 : Int32))] []))
  refine own_st (fun u_ k_ => XS.iloadN X0.here hx rfl (hb hby own_d_jdk_29_69_5) rfl k_) ?_
  show own_Go p e below _ (s₁.setTop (mkF m 6 #[.val (.int (0 : Int32)), .val (.int (1 : Int32))] [(.int (0 : Int32))]))
  refine own_st (fun u_ k_ => XS.goto X0.here hx rfl (pc0 := 6) (pc' := 10) rfl (hb hby own_d_jdk_29_69_6) (by decide) (by decide) k_) ?_
  show own_Go p e below _ (s₁.setTop (mkF m 10 #[.val (.int (0 : Int32)), .val (.int (1 : Int32))] [(.int (0 : Int32))]))
  exact own_retX X0 hx hlk hret rfl (Or.inl ⟨rfl, by simp, _, rfl⟩) (hb hby own_d_jdk_29_69_10) (by decide) (by decide) (show QrmMin0_1 Z w0 wl wp mr  h0 n0 (some (.int (0 : Int32))) s₁.heap _ from (by rw [e0]; exact ⟨rfl, N0, rfl⟩))
theorem own_ef_rmMis0_1 (m : MethodId) (a : Addr) (b : Addr)  : entryFrame m #[(.ref a), (.ref b), (.int (0 : Int32))] 4 = mkF m 0 #[.val (.ref a), .val (.ref b), .val (.int (0 : Int32)), .unset] [] := by first | (simp [entryFrame, mkF, argsToLocals, Value.category, maxLocals]; done) | rfl
def QrmMis0_1 (Z : State) (w0 : Addr) (wl : Addr) (wp : Addr) (mr : Addr) (a : Addr) (b : Addr) (ka : ClassId) (kb : ClassId) (v0 : Int32) (h0 : Heap) (n0 : Nat) (v : Option Value) (h : Heap) (L : List Loc) : Prop := v = some (.int (-1 : Int32)) ∧ Fr n0 L ∧ h = h0
set_option maxRecDepth 65536 in
set_option maxHeartbeats 40000000 in
theorem rmMis0_1 (l : Launch) (Z : State) (a0 : Array Value) (hw : ∀ d ∈ tables_1, d.before a0 Z = true) (ws : List Jvm.Cond) (w0 : Addr) (wl : Addr) (wp : Addr) (mr : Addr) (hS : own_S Z w0 wl wp mr) (a : Addr) (b : Addr) (ka : ClassId) (kb : ClassId) (v0 : Int32) (h0 : Heap) (n0 : Nat) (O0 : Old Z n0 h0) (V : Arv Z h0 a ka .byte (0 : Int32) [] (.int (0 : Int32))) (U : Arv Z h0 b kb .byte (1 : Int32) [(.int v0)] (.int (0 : Int32))) :
    own_Met l (⟨"jdk/internal/util/ArraysSupport", "mismatch", "([B[BI)I"⟩ : MethodName) jdk_48_method_13_code 4 (some .int) ws ({ frames := 0, cells := 0, slots := 0, locals := 0 } : Room) Z h0 #[(.ref a), (.ref b), (.int (0 : Int32))] (QrmMis0_1 Z w0 wl wp mr a b ka kb v0 h0 n0) := by
  refine own_body (plainFor_of_name own_pn_190) ?_
  intro p e s m below meth c s₁ hx hby hml hown hnm hret hlk hZ e0 X0
  have N0 := Fr.nil n0
  refine own_st (fun u_ k_ => castTop (own_ef_rmMis0_1 m a b) k_) ?_
  show own_Go p e below _ (s₁.setTop (mkF m 0 #[.val (.ref a), .val (.ref b), .val (.int (0 : Int32)), .unset] []))
  refine own_st (fun u_ k_ => XS.iconst X0.here hx rfl (hb hby own_d_jdk_48_13_0) k_) ?_
  show own_Go p e below _ (s₁.setTop (mkF m 1 #[.val (.ref a), .val (.ref b), .val (.int (0 : Int32)), .unset] [(.int (0 : Int32))]))
  refine own_st (fun u_ k_ => XS.istoreN X0.here hx rfl (hb hby own_d_jdk_48_13_1) rfl (l' := #[.val (.ref a), .val (.ref b), .val (.int (0 : Int32)), .val (.int (0 : Int32))]) rfl k_) ?_
  show own_Go p e below _ (s₁.setTop (mkF m 2 #[.val (.ref a), .val (.ref b), .val (.int (0 : Int32)), .val (.int (0 : Int32))] []))
  refine own_st (fun u_ k_ => XS.iloadN X0.here hx rfl (hb hby own_d_jdk_48_13_2) rfl k_) ?_
  show own_Go p e below _ (s₁.setTop (mkF m 3 #[.val (.ref a), .val (.ref b), .val (.int (0 : Int32)), .val (.int (0 : Int32))] [(.int (0 : Int32))]))
  refine own_st (fun u_ k_ => XS.bipush X0.here hx rfl (hb hby own_d_jdk_48_13_3) k_) ?_
  show own_Go p e below _ (s₁.setTop (mkF m 5 #[.val (.ref a), .val (.ref b), .val (.int (0 : Int32)), .val (.int (0 : Int32))] [(.int (7 : Int32)), (.int (0 : Int32))]))
  refine own_st (fun u_ k_ => XS.icmpYes X0.here hx rfl (pc0 := 5) (pc' := 49) rfl (hb hby own_d_jdk_48_13_5) rfl (XT.ii_le_t (by decide)) (by decide) (by decide) k_) ?_
  show own_Go p e below _ (s₁.setTop (mkF m 49 #[.val (.ref a), .val (.ref b), .val (.int (0 : Int32)), .val (.int (0 : Int32))] []))
  refine own_st (fun u_ k_ => XS.iloadN X0.here hx rfl (hb hby own_d_jdk_48_13_49) rfl k_) ?_
  show own_Go p e below _ (s₁.setTop (mkF m 50 #[.val (.ref a), .val (.ref b), .val (.int (0 : Int32)), .val (.int (0 : Int32))] [(.int (0 : Int32))]))
  refine own_st (fun u_ k_ => XS.iloadN X0.here hx rfl (hb hby own_d_jdk_48_13_50) rfl k_) ?_
  show own_Go p e below _ (s₁.setTop (mkF m 51 #[.val (.ref a), .val (.ref b), .val (.int (0 : Int32)), .val (.int (0 : Int32))] [(.int (0 : Int32)), (.int (0 : Int32))]))
  refine own_st (fun u_ k_ => XS.icmpYes X0.here hx rfl (pc0 := 51) (pc' := 71) rfl (hb hby own_d_jdk_48_13_51) rfl (XT.ii_ge_t (by decide)) (by decide) (by decide) k_) ?_
  show own_Go p e below _ (s₁.setTop (mkF m 71 #[.val (.ref a), .val (.ref b), .val (.int (0 : Int32)), .val (.int (0 : Int32))] []))
  refine own_st (fun u_ k_ => XS.iconst X0.here hx rfl (hb hby own_d_jdk_48_13_71) k_) ?_
  show own_Go p e below _ (s₁.setTop (mkF m 72 #[.val (.ref a), .val (.ref b), .val (.int (0 : Int32)), .val (.int (0 : Int32))] [(.int (-1 : Int32))]))
  exact own_retX X0 hx hlk hret rfl (Or.inl ⟨rfl, by simp, _, rfl⟩) (hb hby own_d_jdk_48_13_72) (by decide) (by decide) (show QrmMis0_1 Z w0 wl wp mr a b ka kb v0 h0 n0 (some (.int (-1 : Int32))) s₁.heap _ from (by rw [e0]; exact ⟨rfl, N0, rfl⟩))
theorem own_ef_rmU0_1 (m : MethodId) (a : Addr) (b : Addr)  : entryFrame m #[(.ref a), (.ref b)] 3 = mkF m 0 #[.val (.ref a), .val (.ref b), .unset] [] := by first | (simp [entryFrame, mkF, argsToLocals, Value.category, maxLocals]; done) | rfl
def QrmU0_1 (Z : State) (w0 : Addr) (wl : Addr) (wp : Addr) (mr : Addr) (a : Addr) (b : Addr) (ka : ClassId) (kb : ClassId) (v0 : Int32) (h0 : Heap) (n0 : Nat) (v : Option Value) (h : Heap) (L : List Loc) : Prop := v = some (.int (-1 : Int32)) ∧ Fr n0 L ∧ h = h0
set_option maxRecDepth 65536 in
set_option maxHeartbeats 40000000 in
theorem rmU0_1 (l : Launch) (Z : State) (a0 : Array Value) (hw : ∀ d ∈ tables_1, d.before a0 Z = true) (ws : List Jvm.Cond) (w0 : Addr) (wl : Addr) (wp : Addr) (mr : Addr) (hS : own_S Z w0 wl wp mr) (a : Addr) (b : Addr) (ka : ClassId) (kb : ClassId) (v0 : Int32) (h0 : Heap) (n0 : Nat) (O0 : Old Z n0 h0) (V : Arv Z h0 a ka .byte (0 : Int32) [] (.int (0 : Int32))) (U : Arv Z h0 b kb .byte (1 : Int32) [(.int v0)] (.int (0 : Int32))) (ne : a ≠ b) :
    own_Met l (⟨"java/util/Arrays", "compareUnsigned", "([B[B)I"⟩ : MethodName) jdk_65_method_201_code 3 (some .int) ws ({ frames := 1, cells := 0, slots := 0, locals := 15 } : Room) Z h0 #[(.ref a), (.ref b)] (QrmU0_1 Z w0 wl wp mr a b ka kb v0 h0 n0) := by
  refine own_body (plainFor_of_name own_pn_219) ?_
  intro p e s m below meth c s₁ hx hby hml hown hnm hret hlk hZ e0 X0
  have N0 := Fr.nil n0
  refine own_st (fun u_ k_ => castTop (own_ef_rmU0_1 m a b) k_) ?_
  show own_Go p e below _ (s₁.setTop (mkF m 0 #[.val (.ref a), .val (.ref b), .unset] []))
  refine own_st (fun u_ k_ => XS.aloadN X0.here hx rfl (hb hby own_d_jdk_65_201_0) rfl rfl k_) ?_
  show own_Go p e below _ (s₁.setTop (mkF m 1 #[.val (.ref a), .val (.ref b), .unset] [(.ref a)]))
  refine own_st (fun u_ k_ => XS.aloadN X0.here hx rfl (hb hby own_d_jdk_65_201_1) rfl rfl k_) ?_
  show own_Go p e below _ (s₁.setTop (mkF m 2 #[.val (.ref a), .val (.ref b), .unset] [(.ref b), (.ref a)]))
  refine own_st (fun u_ k_ => XT.acmpYes X0.here hx rfl (pc0 := 2) (pc' := 7) rfl (hb hby own_d_jdk_65_201_2) rfl rfl rfl (XT.aa_ne_t (own_rne ne)) (by decide) (by decide) k_) ?_
  show own_Go p e below _ (s₁.setTop (mkF m 7 #[.val (.ref a), .val (.ref b), .unset] []))
  refine own_st (fun u_ k_ => XS.aloadN X0.here hx rfl (hb hby own_d_jdk_65_201_7) rfl rfl k_) ?_
  show own_Go p e below _ (s₁.setTop (mkF m 8 #[.val (.ref a), .val (.ref b), .unset] [(.ref a)]))
  refine own_st (fun u_ k_ => XS.ifnullNo X0.here hx rfl (hb hby own_d_jdk_65_201_8) rfl k_) ?_
  show own_Go p e below _ (s₁.setTop (mkF m 11 #[.val (.ref a), .val (.ref b), .unset] []))
  refine own_st (fun u_ k_ => XS.aloadN X0.here hx rfl (hb hby own_d_jdk_65_201_11) rfl rfl k_) ?_
  show own_Go p e below _ (s₁.setTop (mkF m 12 #[.val (.ref a), .val (.ref b), .unset] [(.ref b)]))
  refine own_st (fun u_ k_ => XS.ifnonnullYes X0.here hx rfl (pc0 := 12) (pc' := 25) rfl (hb hby own_d_jdk_65_201_12) rfl (by decide) (by decide) k_) ?_
  show own_Go p e below _ (s₁.setTop (mkF m 25 #[.val (.ref a), .val (.ref b), .unset] []))
  refine own_st (fun u_ k_ => XS.aloadN X0.here hx rfl (hb hby own_d_jdk_65_201_25) rfl rfl k_) ?_
  show own_Go p e below _ (s₁.setTop (mkF m 26 #[.val (.ref a), .val (.ref b), .unset] [(.ref a)]))
  refine own_st (fun u_ k_ => XS.aloadN X0.here hx rfl (hb hby own_d_jdk_65_201_26) rfl rfl k_) ?_
  show own_Go p e below _ (s₁.setTop (mkF m 27 #[.val (.ref a), .val (.ref b), .unset] [(.ref b), (.ref a)]))
  refine own_st (fun u_ k_ => XS.aloadN X0.here hx rfl (hb hby own_d_jdk_65_201_27) rfl rfl k_) ?_
  show own_Go p e below _ (s₁.setTop (mkF m 28 #[.val (.ref a), .val (.ref b), .unset] [(.ref a), (.ref b), (.ref a)]))
  obtain ⟨cl219, Ar219, -, S219, N219, -, -⟩ := id V
  refine own_st (X0.arraylength hx (by rw [e0]; exact Ar219.1) (State.isArrayOf_alike hZ.alike Ar219.2.1) (g := (mkF m 28 #[.val (.ref a), .val (.ref b), .unset] [(.ref a), (.ref b), (.ref a)])) rfl rfl (hb hby own_d_jdk_65_201_28)) ?_
  rw [len_of S219 N219]
  show own_Go p e below _ (s₁.setTop (mkF m 29 #[.val (.ref a), .val (.ref b), .unset] [(.int (0 : Int32)), (.ref b), (.ref a)]))
  refine own_st (fun u_ k_ => XS.aloadN X0.here hx rfl (hb hby own_d_jdk_65_201_29) rfl rfl k_) ?_
  show own_Go p e below _ (s₁.setTop (mkF m 30 #[.val (.ref a), .val (.ref b), .unset] [(.ref b), (.int (0 : Int32)), (.ref b), (.ref a)]))
  obtain ⟨cl220, Ar220, -, S220, N220, -, -⟩ := id U
  refine own_st (X0.arraylength hx (by rw [e0]; exact Ar220.1) (State.isArrayOf_alike hZ.alike Ar220.2.1) (g := (mkF m 30 #[.val (.ref a), .val (.ref b), .unset] [(.ref b), (.int (0 : Int32)), (.ref b), (.ref a)])) rfl rfl (hb hby own_d_jdk_65_201_30)) ?_
  rw [len_of S220 N220]
  show own_Go p e below _ (s₁.setTop (mkF m 31 #[.val (.ref a), .val (.ref b), .unset] [(.int (1 : Int32)), (.int (0 : Int32)), (.ref b), (.ref a)]))
  obtain ⟨T221, v221, L221, X221, hQ221, st221⟩ := own_callS X0 hx hZ (y := (⟨"java/lang/Math", "min", "(II)I"⟩ : MethodName)) hown (hw _ (List.mem_of_getElem? (i := 103) rfl)) (hw _ (List.mem_of_getElem? (i := 104) rfl)) (hw _ (List.mem_of_getElem? (i := 105) rfl)) (hw _ (List.mem_of_getElem? (i := 106) rfl)) own_lm_205 (rmMin0_1 l Z a0 hw [] w0 wl wp mr hS  h0 n0 O0 ) e0 own_pd_206 (argsL := [(.int (0 : Int32)), (.int (1 : Int32))]) (rest := [(.ref b), (.ref a)]) rfl rfl (g := (mkF m 31 #[.val (.ref a), .val (.ref b), .unset] [(.int (1 : Int32)), (.int (0 : Int32)), (.ref b), (.ref a)])) rfl (by rw [hml]; rfl) rfl (hb hby own_d_jdk_65_201_31) (W := 2) rfl (by decide) (by decide) (by decide) (by decide)
  obtain ⟨rfl, M221, e221⟩ := hQ221
  have N221 := Fr.app N0 M221
  refine own_st (fun u_ k_ => st221 u_ k_) ?_
  show own_Go p e below _ (T221.setTop (mkF m 34 #[.val (.ref a), .val (.ref b), .unset] [(.int (0 : Int32)), (.ref b), (.ref a)]))
  obtain ⟨T222, v222, L222, X222, hQ222, st222⟩ := own_callS X221 hx hZ (y := (⟨"jdk/internal/util/ArraysSupport", "mismatch", "([B[BI)I"⟩ : MethodName)) hown (hw _ (List.mem_of_getElem? (i := 107) rfl)) (hw _ (List.mem_of_getElem? (i := 108) rfl)) (hw _ (List.mem_of_getElem? (i := 109) rfl)) (hw _ (List.mem_of_getElem? (i := 110) rfl)) own_lm_208 (rmMis0_1 l Z a0 hw [] w0 wl wp mr hS a b ka kb v0 h0 n0 O0 V U) e221 own_pd_209 (argsL := [(.ref a), (.ref b), (.int (0 : Int32))]) (rest := []) rfl rfl (g := (mkF m 34 #[.val (.ref a), .val (.ref b), .unset] [(.int (0 : Int32)), (.ref b), (.ref a)])) rfl (by rw [hml]; rfl) rfl (hb hby own_d_jdk_65_201_34) (W := 0) rfl (by decide) (by decide) (by decide) (by decide)
  obtain ⟨rfl, M222, e222⟩ := hQ222
  have N222 := Fr.app N221 M222
  refine own_st (fun u_ k_ => st222 u_ k_) ?_
  show own_Go p e below _ (T222.setTop (mkF m 37 #[.val (.ref a), .val (.ref b), .unset] [(.int (-1 : Int32))]))
  refine own_st (fun u_ k_ => XS.istoreN X222.here hx rfl (hb hby own_d_jdk_65_201_37) rfl (l' := #[.val (.ref a), .val (.ref b), .val (.int (-1 : Int32))]) rfl k_) ?_
  show own_Go p e below _ (T222.setTop (mkF m 38 #[.val (.ref a), .val (.ref b), .val (.int (-1 : Int32))] []))
  refine own_st (fun u_ k_ => XS.iloadN X222.here hx rfl (hb hby own_d_jdk_65_201_38) rfl k_) ?_
  show own_Go p e below _ (T222.setTop (mkF m 39 #[.val (.ref a), .val (.ref b), .val (.int (-1 : Int32))] [(.int (-1 : Int32))]))
  refine own_st (fun u_ k_ => XS.ifYes X222.here hx rfl (pc0 := 39) (pc' := 52) rfl (hb hby own_d_jdk_65_201_39) rfl (XT.i0_lt_t (by decide)) (by decide) (by decide) k_) ?_
  show own_Go p e below _ (T222.setTop (mkF m 52 #[.val (.ref a), .val (.ref b), .val (.int (-1 : Int32))] []))
  refine own_st (fun u_ k_ => XS.aloadN X222.here hx rfl (hb hby own_d_jdk_65_201_52) rfl rfl k_) ?_
  show own_Go p e below _ (T222.setTop (mkF m 53 #[.val (.ref a), .val (.ref b), .val (.int (-1 : Int32))] [(.ref a)]))
  obtain ⟨cl223, Ar223, -, S223, N223, -, -⟩ := id V
  refine own_st (X222.arraylength hx (by rw [e222]; exact Ar223.1) (State.isArrayOf_alike hZ.alike Ar223.2.1) (g := (mkF m 53 #[.val (.ref a), .val (.ref b), .val (.int (-1 : Int32))] [(.ref a)])) rfl rfl (hb hby own_d_jdk_65_201_53)) ?_
  rw [len_of S223 N223]
  show own_Go p e below _ (T222.setTop (mkF m 54 #[.val (.ref a), .val (.ref b), .val (.int (-1 : Int32))] [(.int (0 : Int32))]))
  refine own_st (fun u_ k_ => XS.aloadN X222.here hx rfl (hb hby own_d_jdk_65_201_54) rfl rfl k_) ?_
  show own_Go p e below _ (T222.setTop (mkF m 55 #[.val (.ref a), .val (.ref b), .val (.int (-1 : Int32))] [(.ref b), (.int (0 : Int32))]))
  obtain ⟨cl224, Ar224, -, S224, N224, -, -⟩ := id U
  refine own_st (X222.arraylength hx (by rw [e222]; exact Ar224.1) (State.isArrayOf_alike hZ.alike Ar224.2.1) (g := (mkF m 55 #[.val (.ref a), .val (.ref b), .val (.int (-1 : Int32))] [(.ref b), (.int (0 : Int32))])) rfl rfl (hb hby own_d_jdk_65_201_55)) ?_
  rw [len_of S224 N224]
  show own_Go p e below _ (T222.setTop (mkF m 56 #[.val (.ref a), .val (.ref b), .val (.int (-1 : Int32))] [(.int (1 : Int32)), (.int (0 : Int32))]))
  refine own_st (fun u_ k_ => XS.isub X222.here hx rfl (hb hby own_d_jdk_65_201_56) rfl k_) ?_
  show own_Go p e below _ (T222.setTop (mkF m 57 #[.val (.ref a), .val (.ref b), .val (.int (-1 : Int32))] [(.int (-1 : Int32))]))
  exact own_retX X222 hx hlk hret rfl (Or.inl ⟨rfl, by simp, _, rfl⟩) (hb hby own_d_jdk_65_201_57) (by decide) (by decide) (show QrmU0_1 Z w0 wl wp mr a b ka kb v0 h0 n0 (some (.int (-1 : Int32))) T222.heap _ from (by rw [e222]; exact ⟨rfl, N222, rfl⟩))
theorem own_ef_rmV0_1 (m : MethodId) (pp : Addr) (qq : Addr)  : entryFrame m #[(.ref pp), (.ref qq)] 3 = mkF m 0 #[.val (.ref pp), .val (.ref qq), .unset] [] := by first | (simp [entryFrame, mkF, argsToLocals, Value.category, maxLocals]; done) | rfl
def QrmV0_1 (Z : State) (w0 : Addr) (wl : Addr) (wp : Addr) (mr : Addr) (pp : Addr) (qq : Addr) (a : Addr) (b : Addr) (ka : ClassId) (kb : ClassId) (v0 : Int32) (h0 : Heap) (n0 : Nat) (v : Option Value) (h : Heap) (L : List Loc) : Prop := v = some (.int (-1 : Int32)) ∧ Fr n0 L ∧ h = h0
set_option maxRecDepth 65536 in
set_option maxHeartbeats 40000000 in
theorem rmV0_1 (l : Launch) (Z : State) (a0 : Array Value) (hw : ∀ d ∈ tables_1, d.before a0 Z = true) (ws : List Jvm.Cond) (w0 : Addr) (wl : Addr) (wp : Addr) (mr : Addr) (hS : own_S Z w0 wl wp mr) (pp : Addr) (qq : Addr) (a : Addr) (b : Addr) (ka : ClassId) (kb : ClassId) (v0 : Int32) (h0 : Heap) (n0 : Nat) (O0 : Old Z n0 h0) (Ep : Exa Z h0 pp "com/example/tasdik/tasdik/core/cbor/CborValue") (Eq : Exa Z h0 qq "com/example/tasdik/tasdik/core/cbor/CborValue") (T1 : Fld Z h0 pp "com/example/tasdik/tasdik/core/cbor/CborValue" "type" "Lcom/example/tasdik/tasdik/core/cbor/CborValue$Type;" (.ref w0)) (T2 : Fld Z h0 qq "com/example/tasdik/tasdik/core/cbor/CborValue" "type" "Lcom/example/tasdik/tasdik/core/cbor/CborValue$Type;" (.ref w0)) (B1 : Fld Z h0 pp "com/example/tasdik/tasdik/core/cbor/CborValue" "bytes" "[B" (.ref a)) (B2 : Fld Z h0 qq "com/example/tasdik/tasdik/core/cbor/CborValue" "bytes" "[B" (.ref b)) (V : Arv Z h0 a ka .byte (0 : Int32) [] (.int (0 : Int32))) (U : Arv Z h0 b kb .byte (1 : Int32) [(.int v0)] (.int (0 : Int32))) (ne : a ≠ b) :
    own_Met l (⟨"com/example/tasdik/tasdik/core/cbor/CborValue", "compare", "(Lcom/example/tasdik/tasdik/core/cbor/CborValue;Lcom/example/tasdik/tasdik/core/cbor/CborValue;)I"⟩ : MethodName) prog_21_method_18_code 3 (some .int) ws ({ frames := 2, cells := 0, slots := 0, locals := 43 } : Room) Z h0 #[(.ref pp), (.ref qq)] (QrmV0_1 Z w0 wl wp mr pp qq a b ka kb v0 h0 n0) := by
  refine own_body (plainFor_of_name own_pn_119) ?_
  intro p e s m below meth c s₁ hx hby hml hown hnm hret hlk hZ e0 X0
  have N0 := Fr.nil n0
  refine own_st (fun u_ k_ => castTop (own_ef_rmV0_1 m pp qq) k_) ?_
  show own_Go p e below _ (s₁.setTop (mkF m 0 #[.val (.ref pp), .val (.ref qq), .unset] []))
  refine own_st (fun u_ k_ => XS.aloadN X0.here hx rfl (hb hby own_d_prog_21_18_0) rfl rfl k_) ?_
  show own_Go p e below _ (s₁.setTop (mkF m 1 #[.val (.ref pp), .val (.ref qq), .unset] [(.ref pp)]))
  obtain ⟨T225, X225, e225, st225⟩ := getF X0 hx hZ hown (host := "") (Or.inl (hw _ (List.mem_of_getElem? (i := 31) rfl))) Via.refl e0 T1 (g := (mkF m 1 #[.val (.ref pp), .val (.ref qq), .unset] [(.ref pp)])) rfl rfl (hb hby own_d_prog_21_18_1)
  refine own_st (fun u_ k_ => st225 u_ k_) ?_
  show own_Go p e below _ (T225.setTop (mkF m 4 #[.val (.ref pp), .val (.ref qq), .unset] [(.ref w0)]))
  refine own_st (fun u_ k_ => XS.aloadN X225.here hx rfl (hb hby own_d_prog_21_18_4) rfl rfl k_) ?_
  show own_Go p e below _ (T225.setTop (mkF m 5 #[.val (.ref pp), .val (.ref qq), .unset] [(.ref qq), (.ref w0)]))
  obtain ⟨T226, X226, e226, st226⟩ := getF X225 hx hZ hown (host := "") (Or.inl (hw _ (List.mem_of_getElem? (i := 31) rfl))) Via.refl e225 T2 (g := (mkF m 5 #[.val (.ref pp), .val (.ref qq), .unset] [(.ref qq), (.ref w0)])) rfl rfl (hb hby own_d_prog_21_18_5)
  refine own_st (fun u_ k_ => st226 u_ k_) ?_
  show own_Go p e below _ (T226.setTop (mkF m 8 #[.val (.ref pp), .val (.ref qq), .unset] [(.ref w0), (.ref w0)]))
  have F227 : Exa Z h0 w0 "com/example/tasdik/tasdik/core/cbor/CborValue$Type" := Exa.ext O0.2 hS.2.1
  have F228 : Fld Z h0 w0 "java/lang/Enum" "ordinal" "I" (.int (1 : Int32)) := Fld.ext O0.2 hS.2.2.1
  obtain ⟨T229, v229, L229, X229, hQ229, st229⟩ := own_callU X226 hx hZ (y := (⟨"com/example/tasdik/tasdik/core/cbor/CborValue$Type", "compareTo", "(Ljava/lang/Enum;)I"⟩ : MethodName)) (z := (⟨"java/lang/Enum", "compareTo", "(Ljava/lang/Enum;)I"⟩ : MethodName)) hown (hw _ (List.mem_of_getElem? (i := 78) rfl)) (hw _ (List.mem_of_getElem? (i := 79) rfl)) (hw _ (List.mem_of_getElem? (i := 80) rfl)) (hw _ (List.mem_of_getElem? (i := 82) rfl)) (hw _ (List.mem_of_getElem? (i := 81) rfl)) (hw _ (List.mem_of_getElem? (i := 83) rfl)) (hw _ (List.mem_of_getElem? (i := 84) rfl)) own_lm_225 (rmC l Z a0 hw [] w0 wl wp mr hS w0 (1 : Int32) h0 n0 O0 F227 F228) e226 F227 own_pd_226 (argsL := [(.ref w0)]) (rest := []) rfl rfl (g := (mkF m 8 #[.val (.ref pp), .val (.ref qq), .unset] [(.ref w0), (.ref w0)])) rfl (by rw [hml]; rfl) rfl (hb hby own_d_prog_21_18_8) (W := 0) rfl (by decide) (by decide) (by decide) (by decide)
  obtain ⟨rfl, M229, e229⟩ := hQ229
  have N229 := Fr.app N0 M229
  refine own_st (fun u_ k_ => st229 u_ k_) ?_
  show own_Go p e below _ (T229.setTop (mkF m 11 #[.val (.ref pp), .val (.ref qq), .unset] [(.int ((1 : Int32) - (1 : Int32)))]))
  refine own_st (fun u_ k_ => XS.istoreN X229.here hx rfl (hb hby own_d_prog_21_18_11) rfl (l' := #[.val (.ref pp), .val (.ref qq), .val (.int ((1 : Int32) - (1 : Int32)))]) rfl k_) ?_
  show own_Go p e below _ (T229.setTop (mkF m 12 #[.val (.ref pp), .val (.ref qq), .val (.int ((1 : Int32) - (1 : Int32)))] []))
  refine own_st (fun u_ k_ => XS.iloadN X229.here hx rfl (hb hby own_d_prog_21_18_12) rfl k_) ?_
  show own_Go p e below _ (T229.setTop (mkF m 13 #[.val (.ref pp), .val (.ref qq), .val (.int ((1 : Int32) - (1 : Int32)))] [(.int ((1 : Int32) - (1 : Int32)))]))
  refine own_st (fun u_ k_ => XS.ifNo X229.here hx rfl (hb hby own_d_prog_21_18_13) rfl (XT.i0_ne_f (by decide)) k_) ?_
  show own_Go p e below _ (T229.setTop (mkF m 16 #[.val (.ref pp), .val (.ref qq), .val (.int ((1 : Int32) - (1 : Int32)))] []))
  refine own_st (fun u_ k_ => XS.aloadN X229.here hx rfl (hb hby own_d_prog_21_18_16) rfl rfl k_) ?_
  show own_Go p e below _ (T229.setTop (mkF m 17 #[.val (.ref pp), .val (.ref qq), .val (.int ((1 : Int32) - (1 : Int32)))] [(.ref pp)]))
  obtain ⟨T230, X230, e230, st230⟩ := getF X229 hx hZ hown (host := "") (Or.inl (hw _ (List.mem_of_getElem? (i := 31) rfl))) Via.refl e229 T1 (g := (mkF m 17 #[.val (.ref pp), .val (.ref qq), .val (.int ((1 : Int32) - (1 : Int32)))] [(.ref pp)])) rfl rfl (hb hby own_d_prog_21_18_17)
  refine own_st (fun u_ k_ => st230 u_ k_) ?_
  show own_Go p e below _ (T230.setTop (mkF m 20 #[.val (.ref pp), .val (.ref qq), .val (.int ((1 : Int32) - (1 : Int32)))] [(.ref w0)]))
  obtain ⟨T231, v231, L231, X231, hQ231, st231⟩ := own_callU X230 hx hZ (y := (⟨"com/example/tasdik/tasdik/core/cbor/CborValue$Type", "ordinal", "()I"⟩ : MethodName)) (z := (⟨"java/lang/Enum", "ordinal", "()I"⟩ : MethodName)) hown (hw _ (List.mem_of_getElem? (i := 93) rfl)) (hw _ (List.mem_of_getElem? (i := 94) rfl)) (hw _ (List.mem_of_getElem? (i := 95) rfl)) (hw _ (List.mem_of_getElem? (i := 97) rfl)) (hw _ (List.mem_of_getElem? (i := 96) rfl)) (hw _ (List.mem_of_getElem? (i := 83) rfl)) (hw _ (List.mem_of_getElem? (i := 98) rfl)) own_lm_225 (rmO l Z a0 hw [] w0 wl wp mr hS w0 (1 : Int32) h0 n0 O0 F228) e230 F227 own_pd_233 (argsL := []) (rest := []) rfl rfl (g := (mkF m 20 #[.val (.ref pp), .val (.ref qq), .val (.int ((1 : Int32) - (1 : Int32)))] [(.ref w0)])) rfl (by rw [hml]; rfl) rfl (hb hby own_d_prog_21_18_20) (W := 0) rfl (by decide) (by decide) (by decide) (by decide)
  obtain ⟨rfl, M231, e231⟩ := hQ231
  have N231 := Fr.app N229 M231
  refine own_st (fun u_ k_ => st231 u_ k_) ?_
  show own_Go p e below _ (T231.setTop (mkF m 23 #[.val (.ref pp), .val (.ref qq), .val (.int ((1 : Int32) - (1 : Int32)))] [(.int (1 : Int32))]))
  refine own_st (fun u_ k_ => XS.tswIn X231.here hx rfl (pc0 := 23) (pc' := 92) (o := 69) rfl (hb hby own_d_prog_21_18_23) rfl (by decide) (by decide) (by decide) (by decide) k_) ?_
  show own_Go p e below _ (T231.setTop (mkF m 92 #[.val (.ref pp), .val (.ref qq), .val (.int ((1 : Int32) - (1 : Int32)))] []))
  refine own_st (fun u_ k_ => XS.aloadN X231.here hx rfl (hb hby own_d_prog_21_18_92) rfl rfl k_) ?_
  show own_Go p e below _ (T231.setTop (mkF m 93 #[.val (.ref pp), .val (.ref qq), .val (.int ((1 : Int32) - (1 : Int32)))] [(.ref pp)]))
  obtain ⟨T232, X232, e232, st232⟩ := getF X231 hx hZ hown (host := "") (Or.inl (hw _ (List.mem_of_getElem? (i := 37) rfl))) Via.refl e231 B1 (g := (mkF m 93 #[.val (.ref pp), .val (.ref qq), .val (.int ((1 : Int32) - (1 : Int32)))] [(.ref pp)])) rfl rfl (hb hby own_d_prog_21_18_93)
  refine own_st (fun u_ k_ => st232 u_ k_) ?_
  show own_Go p e below _ (T232.setTop (mkF m 96 #[.val (.ref pp), .val (.ref qq), .val (.int ((1 : Int32) - (1 : Int32)))] [(.ref a)]))
  refine own_st (fun u_ k_ => XS.aloadN X232.here hx rfl (hb hby own_d_prog_21_18_96) rfl rfl k_) ?_
  show own_Go p e below _ (T232.setTop (mkF m 97 #[.val (.ref pp), .val (.ref qq), .val (.int ((1 : Int32) - (1 : Int32)))] [(.ref qq), (.ref a)]))
  obtain ⟨T233, X233, e233, st233⟩ := getF X232 hx hZ hown (host := "") (Or.inl (hw _ (List.mem_of_getElem? (i := 37) rfl))) Via.refl e232 B2 (g := (mkF m 97 #[.val (.ref pp), .val (.ref qq), .val (.int ((1 : Int32) - (1 : Int32)))] [(.ref qq), (.ref a)])) rfl rfl (hb hby own_d_prog_21_18_97)
  refine own_st (fun u_ k_ => st233 u_ k_) ?_
  show own_Go p e below _ (T233.setTop (mkF m 100 #[.val (.ref pp), .val (.ref qq), .val (.int ((1 : Int32) - (1 : Int32)))] [(.ref b), (.ref a)]))
  obtain ⟨T234, v234, L234, X234, hQ234, st234⟩ := own_callS X233 hx hZ (y := (⟨"java/util/Arrays", "compareUnsigned", "([B[B)I"⟩ : MethodName)) hown (hw _ (List.mem_of_getElem? (i := 99) rfl)) (hw _ (List.mem_of_getElem? (i := 100) rfl)) (hw _ (List.mem_of_getElem? (i := 101) rfl)) (hw _ (List.mem_of_getElem? (i := 102) rfl)) own_lm_240 (rmU0_1 l Z a0 hw [] w0 wl wp mr hS a b ka kb v0 h0 n0 O0 V U ne) e233 own_pd_241 (argsL := [(.ref a), (.ref b)]) (rest := []) rfl rfl (g := (mkF m 100 #[.val (.ref pp), .val (.ref qq), .val (.int ((1 : Int32) - (1 : Int32)))] [(.ref b), (.ref a)])) rfl (by rw [hml]; rfl) rfl (hb hby own_d_prog_21_18_100) (W := 0) rfl (by decide) (by decide) (by decide) (by decide)
  obtain ⟨rfl, M234, e234⟩ := hQ234
  have N234 := Fr.app N231 M234
  refine own_st (fun u_ k_ => st234 u_ k_) ?_
  show own_Go p e below _ (T234.setTop (mkF m 103 #[.val (.ref pp), .val (.ref qq), .val (.int ((1 : Int32) - (1 : Int32)))] [(.int (-1 : Int32))]))
  refine own_st (fun u_ k_ => XS.goto X234.here hx rfl (pc0 := 103) (pc' := 187) rfl (hb hby own_d_prog_21_18_103) (by decide) (by decide) k_) ?_
  show own_Go p e below _ (T234.setTop (mkF m 187 #[.val (.ref pp), .val (.ref qq), .val (.int ((1 : Int32) - (1 : Int32)))] [(.int (-1 : Int32))]))
  refine own_st (fun u_ k_ => XS.istoreN X234.here hx rfl (hb hby own_d_prog_21_18_187) rfl (l' := #[.val (.ref pp), .val (.ref qq), .val (.int (-1 : Int32))]) rfl k_) ?_
  show own_Go p e below _ (T234.setTop (mkF m 188 #[.val (.ref pp), .val (.ref qq), .val (.int (-1 : Int32))] []))
  refine own_st (fun u_ k_ => XS.iloadN X234.here hx rfl (hb hby own_d_prog_21_18_188) rfl k_) ?_
  show own_Go p e below _ (T234.setTop (mkF m 189 #[.val (.ref pp), .val (.ref qq), .val (.int (-1 : Int32))] [(.int (-1 : Int32))]))
  exact own_retX X234 hx hlk hret rfl (Or.inl ⟨rfl, by simp, _, rfl⟩) (hb hby own_d_prog_21_18_189) (by decide) (by decide) (show QrmV0_1 Z w0 wl wp mr pp qq a b ka kb v0 h0 n0 (some (.int (-1 : Int32))) T234.heap _ from (by rw [e234]; exact ⟨rfl, N234, rfl⟩))
theorem own_d_prog_21_16_24 : decode prog_21_method_16_code 24 = .ok (.iconst 0, 1) := by decide +kernel
theorem own_ef_rmE0_1 (m : MethodId) (pp : Addr) (qq : Addr)  : entryFrame m #[(.ref pp), (.ref qq)] 3 = mkF m 0 #[.val (.ref pp), .val (.ref qq), .unset] [] := by first | (simp [entryFrame, mkF, argsToLocals, Value.category, maxLocals]; done) | rfl
def QrmE0_1 (Z : State) (w0 : Addr) (wl : Addr) (wp : Addr) (mr : Addr) (pp : Addr) (qq : Addr) (a : Addr) (b : Addr) (ka : ClassId) (kb : ClassId) (v0 : Int32) (h0 : Heap) (n0 : Nat) (v : Option Value) (h : Heap) (L : List Loc) : Prop := v = some (.int (0 : Int32)) ∧ Fr n0 L ∧ h = h0
set_option maxRecDepth 65536 in
set_option maxHeartbeats 40000000 in
theorem rmE0_1 (l : Launch) (Z : State) (a0 : Array Value) (hw : ∀ d ∈ tables_1, d.before a0 Z = true) (ws : List Jvm.Cond) (w0 : Addr) (wl : Addr) (wp : Addr) (mr : Addr) (hS : own_S Z w0 wl wp mr) (pp : Addr) (qq : Addr) (a : Addr) (b : Addr) (ka : ClassId) (kb : ClassId) (v0 : Int32) (h0 : Heap) (n0 : Nat) (O0 : Old Z n0 h0) (Ep : Exa Z h0 pp "com/example/tasdik/tasdik/core/cbor/CborValue") (Eq : Exa Z h0 qq "com/example/tasdik/tasdik/core/cbor/CborValue") (T1 : Fld Z h0 pp "com/example/tasdik/tasdik/core/cbor/CborValue" "type" "Lcom/example/tasdik/tasdik/core/cbor/CborValue$Type;" (.ref w0)) (T2 : Fld Z h0 qq "com/example/tasdik/tasdik/core/cbor/CborValue" "type" "Lcom/example/tasdik/tasdik/core/cbor/CborValue$Type;" (.ref w0)) (B1 : Fld Z h0 pp "com/example/tasdik/tasdik/core/cbor/CborValue" "bytes" "[B" (.ref a)) (B2 : Fld Z h0 qq "com/example/tasdik/tasdik/core/cbor/CborValue" "bytes" "[B" (.ref b)) (V : Arv Z h0 a ka .byte (0 : Int32) [] (.int (0 : Int32))) (U : Arv Z h0 b kb .byte (1 : Int32) [(.int v0)] (.int (0 : Int32))) (ne : a ≠ b) :
    own_Met l (⟨"com/example/tasdik/tasdik/core/cbor/CborValue", "equals", "(Ljava/lang/Object;)Z"⟩ : MethodName) prog_21_method_16_code 3 (some .boolean) ws ({ frames := 3, cells := 0, slots := 0, locals := 57 } : Room) Z h0 #[(.ref pp), (.ref qq)] (QrmE0_1 Z w0 wl wp mr pp qq a b ka kb v0 h0 n0) := by
  refine own_body (plainFor_of_name own_pn_119) ?_
  intro p e s m below meth c s₁ hx hby hml hown hnm hret hlk hZ e0 X0
  have N0 := Fr.nil n0
  refine own_st (fun u_ k_ => castTop (own_ef_rmE0_1 m pp qq) k_) ?_
  show own_Go p e below _ (s₁.setTop (mkF m 0 #[.val (.ref pp), .val (.ref qq), .unset] []))
  refine own_st (fun u_ k_ => XS.aloadN X0.here hx rfl (hb hby own_d_prog_21_16_0) rfl rfl k_) ?_
  show own_Go p e below _ (s₁.setTop (mkF m 1 #[.val (.ref pp), .val (.ref qq), .unset] [(.ref qq)]))
  obtain ⟨T235, X235, e235, st235⟩ := instY X0 hx hZ hown (hw _ (List.mem_of_getElem? (i := 9) rfl)) e0 (Ins.self Eq) (g := (mkF m 1 #[.val (.ref pp), .val (.ref qq), .unset] [(.ref qq)])) rfl rfl (hb hby own_d_prog_21_16_1)
  refine own_st (fun u_ k_ => st235 u_ k_) ?_
  show own_Go p e below _ (T235.setTop (mkF m 4 #[.val (.ref pp), .val (.ref qq), .unset] [(.int (1 : Int32))]))
  refine own_st (fun u_ k_ => XS.ifNo X235.here hx rfl (hb hby own_d_prog_21_16_4) rfl (XT.i0_eq_f (by decide)) k_) ?_
  show own_Go p e below _ (T235.setTop (mkF m 7 #[.val (.ref pp), .val (.ref qq), .unset] []))
  refine own_st (fun u_ k_ => XS.aloadN X235.here hx rfl (hb hby own_d_prog_21_16_7) rfl rfl k_) ?_
  show own_Go p e below _ (T235.setTop (mkF m 8 #[.val (.ref pp), .val (.ref qq), .unset] [(.ref qq)]))
  obtain ⟨T236, X236, e236, st236⟩ := castY X235 hx hZ hown (hw _ (List.mem_of_getElem? (i := 9) rfl)) e235 (Ins.self Eq) (g := (mkF m 8 #[.val (.ref pp), .val (.ref qq), .unset] [(.ref qq)])) rfl rfl (hb hby own_d_prog_21_16_8)
  refine own_st (fun u_ k_ => st236 u_ k_) ?_
  show own_Go p e below _ (T236.setTop (mkF m 11 #[.val (.ref pp), .val (.ref qq), .unset] [(.ref qq)]))
  refine own_st (fun u_ k_ => XS.astoreN X236.here hx rfl (hb hby own_d_prog_21_16_11) rfl rfl (l' := #[.val (.ref pp), .val (.ref qq), .val (.ref qq)]) rfl k_) ?_
  show own_Go p e below _ (T236.setTop (mkF m 12 #[.val (.ref pp), .val (.ref qq), .val (.ref qq)] []))
  refine own_st (fun u_ k_ => XS.aloadN X236.here hx rfl (hb hby own_d_prog_21_16_12) rfl rfl k_) ?_
  show own_Go p e below _ (T236.setTop (mkF m 13 #[.val (.ref pp), .val (.ref qq), .val (.ref qq)] [(.ref pp)]))
  refine own_st (fun u_ k_ => XS.aloadN X236.here hx rfl (hb hby own_d_prog_21_16_13) rfl rfl k_) ?_
  show own_Go p e below _ (T236.setTop (mkF m 14 #[.val (.ref pp), .val (.ref qq), .val (.ref qq)] [(.ref qq), (.ref pp)]))
  obtain ⟨T237, v237, L237, X237, hQ237, st237⟩ := own_callS X236 hx hZ (y := (⟨"com/example/tasdik/tasdik/core/cbor/CborValue", "compare", "(Lcom/example/tasdik/tasdik/core/cbor/CborValue;Lcom/example/tasdik/tasdik/core/cbor/CborValue;)I"⟩ : MethodName)) hown (hw _ (List.mem_of_getElem? (i := 75) rfl)) (hw _ (List.mem_of_getElem? (i := 76) rfl)) (hw _ (List.mem_of_getElem? (i := 7) rfl)) (hw _ (List.mem_of_getElem? (i := 77) rfl)) own_lm_134 (rmV0_1 l Z a0 hw [] w0 wl wp mr hS pp qq a b ka kb v0 h0 n0 O0 Ep Eq T1 T2 B1 B2 V U ne) e236 own_pd_255 (argsL := [(.ref pp), (.ref qq)]) (rest := []) rfl rfl (g := (mkF m 14 #[.val (.ref pp), .val (.ref qq), .val (.ref qq)] [(.ref qq), (.ref pp)])) rfl (by rw [hml]; rfl) rfl (hb hby own_d_prog_21_16_14) (W := 0) rfl (by decide) (by decide) (by decide) (by decide)
  obtain ⟨rfl, M237, e237⟩ := hQ237
  have N237 := Fr.app N0 M237
  refine own_st (fun u_ k_ => st237 u_ k_) ?_
  show own_Go p e below _ (T237.setTop (mkF m 17 #[.val (.ref pp), .val (.ref qq), .val (.ref qq)] [(.int (-1 : Int32))]))
  refine own_st (fun u_ k_ => XS.ifYes X237.here hx rfl (pc0 := 17) (pc' := 24) rfl (hb hby own_d_prog_21_16_17) rfl (XT.i0_ne_t (by decide)) (by decide) (by decide) k_) ?_
  show own_Go p e below _ (T237.setTop (mkF m 24 #[.val (.ref pp), .val (.ref qq), .val (.ref qq)] []))
  refine own_st (fun u_ k_ => XS.iconst X237.here hx rfl (hb hby own_d_prog_21_16_24) k_) ?_
  show own_Go p e below _ (T237.setTop (mkF m 25 #[.val (.ref pp), .val (.ref qq), .val (.ref qq)] [(.int (0 : Int32))]))
  exact own_retX X237 hx hlk hret rfl (Or.inl ⟨rfl, by simp, _, rfl⟩) (hb hby own_d_prog_21_16_25) (by decide) (by decide) (show QrmE0_1 Z w0 wl wp mr pp qq a b ka kb v0 h0 n0 (some (.int (0 : Int32))) T237.heap _ from (by rw [e237]; exact ⟨rfl, N237, rfl⟩))
theorem own_ef_rmMin1_2 (m : MethodId)   : entryFrame m #[(.int (1 : Int32)), (.int (2 : Int32))] 2 = mkF m 0 #[.val (.int (1 : Int32)), .val (.int (2 : Int32))] [] := by first | (simp [entryFrame, mkF, argsToLocals, Value.category, maxLocals]; done) | rfl
def QrmMin1_2 (Z : State) (w0 : Addr) (wl : Addr) (wp : Addr) (mr : Addr)  (h0 : Heap) (n0 : Nat) (v : Option Value) (h : Heap) (L : List Loc) : Prop := v = some (.int (1 : Int32)) ∧ Fr n0 L ∧ h = h0
set_option maxRecDepth 65536 in
set_option maxHeartbeats 40000000 in
theorem rmMin1_2 (l : Launch) (Z : State) (a0 : Array Value) (hw : ∀ d ∈ tables_1, d.before a0 Z = true) (ws : List Jvm.Cond) (w0 : Addr) (wl : Addr) (wp : Addr) (mr : Addr) (hS : own_S Z w0 wl wp mr)  (h0 : Heap) (n0 : Nat) (O0 : Old Z n0 h0)  :
    own_Met l (⟨"java/lang/Math", "min", "(II)I"⟩ : MethodName) jdk_29_method_69_code 2 (some .int) ws ({ frames := 0, cells := 0, slots := 0, locals := 0 } : Room) Z h0 #[(.int (1 : Int32)), (.int (2 : Int32))] (QrmMin1_2 Z w0 wl wp mr  h0 n0) := by
  refine own_body own_pf_179 ?_
  intro p e s m below meth c s₁ hx hby hml hown hnm hret hlk hZ e0 X0
  have N0 := Fr.nil n0
  refine own_st (fun u_ k_ => castTop (own_ef_rmMin1_2 m ) k_) ?_
  show own_Go p e below _ (s₁.setTop (mkF m 0 #[.val (.int (1 : Int32)), .val (.int (2 : Int32))] []))
  refine own_st (fun u_ k_ => XS.iloadN X0.here hx rfl (hb hby own_d_jdk_29_69_0) rfl k_) ?_
  show own_Go p e below _ (s₁.setTop (mkF m 1 #[.val (.int (1 : Int32)), .val (.int (2 : Int32))] [(.int (1 : Int32))]))
  refine own_st (fun u_ k_ => XS.iloadN X0.here hx rfl (hb hby own_d_jdk_29_69_1) rfl k_) ?_
  show own_Go p e below _ (s₁.setTop (mkF m 2 #[.val (.int (1 : Int32)), .val (.int (2 : Int32))] [(.int (2 : Int32)), (.int (1 : Int32))]))
  refine own_st (fun u_ k_ => XS.icmpNo X0.here hx rfl (hb hby own_d_jdk_29_69_2) rfl (XT.ii_gt_f (by decide)) k_) ?_
  show own_Go p e below _ (s₁.setTop (mkF m 5 #[.val (.int (1 : Int32)), .val (.int (2 : Int32))] []))
  refine own_st (fun u_ k_ => XS.iloadN X0.here hx rfl (hb hby own_d_jdk_29_69_5) rfl k_) ?_
  show own_Go p e below _ (s₁.setTop (mkF m 6 #[.val (.int (1 : Int32)), .val (.int (2 : Int32))] [(.int (1 : Int32))]))
  refine own_st (fun u_ k_ => XS.goto X0.here hx rfl (pc0 := 6) (pc' := 10) rfl (hb hby own_d_jdk_29_69_6) (by decide) (by decide) k_) ?_
  show own_Go p e below _ (s₁.setTop (mkF m 10 #[.val (.int (1 : Int32)), .val (.int (2 : Int32))] [(.int (1 : Int32))]))
  exact own_retX X0 hx hlk hret rfl (Or.inl ⟨rfl, by simp, _, rfl⟩) (hb hby own_d_jdk_29_69_10) (by decide) (by decide) (show QrmMin1_2 Z w0 wl wp mr  h0 n0 (some (.int (1 : Int32))) s₁.heap _ from (by rw [e0]; exact ⟨rfl, N0, rfl⟩))
theorem own_ef_rmMis1_2 (m : MethodId) (a : Addr) (b : Addr)  : entryFrame m #[(.ref a), (.ref b), (.int (1 : Int32))] 4 = mkF m 0 #[.val (.ref a), .val (.ref b), .val (.int (1 : Int32)), .unset] [] := by first | (simp [entryFrame, mkF, argsToLocals, Value.category, maxLocals]; done) | rfl
def QrmMis1_2 (Z : State) (w0 : Addr) (wl : Addr) (wp : Addr) (mr : Addr) (a : Addr) (b : Addr) (ka : ClassId) (kb : ClassId) (v0 : Int32) (v1 : Int32) (h0 : Heap) (n0 : Nat) (v : Option Value) (h : Heap) (L : List Loc) : Prop := v = some (.int (-1 : Int32)) ∧ Fr n0 L ∧ h = h0
set_option maxRecDepth 65536 in
set_option maxHeartbeats 40000000 in
theorem rmMis1_2 (l : Launch) (Z : State) (a0 : Array Value) (hw : ∀ d ∈ tables_1, d.before a0 Z = true) (ws : List Jvm.Cond) (w0 : Addr) (wl : Addr) (wp : Addr) (mr : Addr) (hS : own_S Z w0 wl wp mr) (a : Addr) (b : Addr) (ka : ClassId) (kb : ClassId) (v0 : Int32) (v1 : Int32) (h0 : Heap) (n0 : Nat) (O0 : Old Z n0 h0) (V : Arv Z h0 a ka .byte (1 : Int32) [(.int v0)] (.int (0 : Int32))) (U : Arv Z h0 b kb .byte (2 : Int32) [(.int v0), (.int v1)] (.int (0 : Int32))) :
    own_Met l (⟨"jdk/internal/util/ArraysSupport", "mismatch", "([B[BI)I"⟩ : MethodName) jdk_48_method_13_code 4 (some .int) ws ({ frames := 0, cells := 0, slots := 0, locals := 0 } : Room) Z h0 #[(.ref a), (.ref b), (.int (1 : Int32))] (QrmMis1_2 Z w0 wl wp mr a b ka kb v0 v1 h0 n0) := by
  refine own_body (plainFor_of_name own_pn_190) ?_
  intro p e s m below meth c s₁ hx hby hml hown hnm hret hlk hZ e0 X0
  have N0 := Fr.nil n0
  refine own_st (fun u_ k_ => castTop (own_ef_rmMis1_2 m a b) k_) ?_
  show own_Go p e below _ (s₁.setTop (mkF m 0 #[.val (.ref a), .val (.ref b), .val (.int (1 : Int32)), .unset] []))
  refine own_st (fun u_ k_ => XS.iconst X0.here hx rfl (hb hby own_d_jdk_48_13_0) k_) ?_
  show own_Go p e below _ (s₁.setTop (mkF m 1 #[.val (.ref a), .val (.ref b), .val (.int (1 : Int32)), .unset] [(.int (0 : Int32))]))
  refine own_st (fun u_ k_ => XS.istoreN X0.here hx rfl (hb hby own_d_jdk_48_13_1) rfl (l' := #[.val (.ref a), .val (.ref b), .val (.int (1 : Int32)), .val (.int (0 : Int32))]) rfl k_) ?_
  show own_Go p e below _ (s₁.setTop (mkF m 2 #[.val (.ref a), .val (.ref b), .val (.int (1 : Int32)), .val (.int (0 : Int32))] []))
  refine own_st (fun u_ k_ => XS.iloadN X0.here hx rfl (hb hby own_d_jdk_48_13_2) rfl k_) ?_
  show own_Go p e below _ (s₁.setTop (mkF m 3 #[.val (.ref a), .val (.ref b), .val (.int (1 : Int32)), .val (.int (0 : Int32))] [(.int (1 : Int32))]))
  refine own_st (fun u_ k_ => XS.bipush X0.here hx rfl (hb hby own_d_jdk_48_13_3) k_) ?_
  show own_Go p e below _ (s₁.setTop (mkF m 5 #[.val (.ref a), .val (.ref b), .val (.int (1 : Int32)), .val (.int (0 : Int32))] [(.int (7 : Int32)), (.int (1 : Int32))]))
  refine own_st (fun u_ k_ => XS.icmpYes X0.here hx rfl (pc0 := 5) (pc' := 49) rfl (hb hby own_d_jdk_48_13_5) rfl (XT.ii_le_t (by decide)) (by decide) (by decide) k_) ?_
  show own_Go p e below _ (s₁.setTop (mkF m 49 #[.val (.ref a), .val (.ref b), .val (.int (1 : Int32)), .val (.int (0 : Int32))] []))
  refine own_st (fun u_ k_ => XS.iloadN X0.here hx rfl (hb hby own_d_jdk_48_13_49) rfl k_) ?_
  show own_Go p e below _ (s₁.setTop (mkF m 50 #[.val (.ref a), .val (.ref b), .val (.int (1 : Int32)), .val (.int (0 : Int32))] [(.int (0 : Int32))]))
  refine own_st (fun u_ k_ => XS.iloadN X0.here hx rfl (hb hby own_d_jdk_48_13_50) rfl k_) ?_
  show own_Go p e below _ (s₁.setTop (mkF m 51 #[.val (.ref a), .val (.ref b), .val (.int (1 : Int32)), .val (.int (0 : Int32))] [(.int (1 : Int32)), (.int (0 : Int32))]))
  refine own_st (fun u_ k_ => XS.icmpNo X0.here hx rfl (hb hby own_d_jdk_48_13_51) rfl (XT.ii_ge_f (by decide)) k_) ?_
  show own_Go p e below _ (s₁.setTop (mkF m 54 #[.val (.ref a), .val (.ref b), .val (.int (1 : Int32)), .val (.int (0 : Int32))] []))
  refine own_st (fun u_ k_ => XS.aloadN X0.here hx rfl (hb hby own_d_jdk_48_13_54) rfl rfl k_) ?_
  show own_Go p e below _ (s₁.setTop (mkF m 55 #[.val (.ref a), .val (.ref b), .val (.int (1 : Int32)), .val (.int (0 : Int32))] [(.ref a)]))
  refine own_st (fun u_ k_ => XS.iloadN X0.here hx rfl (hb hby own_d_jdk_48_13_55) rfl k_) ?_
  show own_Go p e below _ (s₁.setTop (mkF m 56 #[.val (.ref a), .val (.ref b), .val (.int (1 : Int32)), .val (.int (0 : Int32))] [(.int (0 : Int32)), (.ref a)]))
  obtain ⟨cl238, Ar238, q238, S238, N238, H238, G238⟩ := id V
  have hi238 : ¬ ((0 : Int32) < 0 ∨ cl238.slots.size ≤ ((0 : Int32)).toNatClampNeg) := inb_of S238 ⟨by decide, by decide⟩
  have ha238 : cl238.slots[((0 : Int32)).toNatClampNeg]? = some (.int v0) := H238.at hi238 rfl
  refine own_st (X0.baloadBytes hx (j := (0 : Int32)) (v := (.int v0)) (by rw [e0]; exact Ar238.1) (State.isArrayOf_alike hZ.alike Ar238.2.1) Ar238.2.2 hi238 ha238 (g := (mkF m 56 #[.val (.ref a), .val (.ref b), .val (.int (1 : Int32)), .val (.int (0 : Int32))] [(.int (0 : Int32)), (.ref a)])) rfl rfl (hb hby own_d_jdk_48_13_56)) ?_
  show own_Go p e below _ (s₁.setTop (mkF m 57 #[.val (.ref a), .val (.ref b), .val (.int (1 : Int32)), .val (.int (0 : Int32))] [(.int v0)]))
  refine own_st (fun u_ k_ => XS.aloadN X0.here hx rfl (hb hby own_d_jdk_48_13_57) rfl rfl k_) ?_
  show own_Go p e below _ (s₁.setTop (mkF m 58 #[.val (.ref a), .val (.ref b), .val (.int (1 : Int32)), .val (.int (0 : Int32))] [(.ref b), (.int v0)]))
  refine own_st (fun u_ k_ => XS.iloadN X0.here hx rfl (hb hby own_d_jdk_48_13_58) rfl k_) ?_
  show own_Go p e below _ (s₁.setTop (mkF m 59 #[.val (.ref a), .val (.ref b), .val (.int (1 : Int32)), .val (.int (0 : Int32))] [(.int (0 : Int32)), (.ref b), (.int v0)]))
  obtain ⟨cl239, Ar239, q239, S239, N239, H239, G239⟩ := id U
  have hi239 : ¬ ((0 : Int32) < 0 ∨ cl239.slots.size ≤ ((0 : Int32)).toNatClampNeg) := inb_of S239 ⟨by decide, by decide⟩
  have ha239 : cl239.slots[((0 : Int32)).toNatClampNeg]? = some (.int v0) := H239.at hi239 rfl
  refine own_st (X0.baloadBytes hx (j := (0 : Int32)) (v := (.int v0)) (by rw [e0]; exact Ar239.1) (State.isArrayOf_alike hZ.alike Ar239.2.1) Ar239.2.2 hi239 ha239 (g := (mkF m 59 #[.val (.ref a), .val (.ref b), .val (.int (1 : Int32)), .val (.int (0 : Int32))] [(.int (0 : Int32)), (.ref b), (.int v0)])) rfl rfl (hb hby own_d_jdk_48_13_59)) ?_
  show own_Go p e below _ (s₁.setTop (mkF m 60 #[.val (.ref a), .val (.ref b), .val (.int (1 : Int32)), .val (.int (0 : Int32))] [(.int v0), (.int v0)]))
  refine own_st (fun u_ k_ => XS.icmpYes X0.here hx rfl (pc0 := 60) (pc' := 65) rfl (hb hby own_d_jdk_48_13_60) rfl (XT.ii_eq_t rfl) (by decide) (by decide) k_) ?_
  show own_Go p e below _ (s₁.setTop (mkF m 65 #[.val (.ref a), .val (.ref b), .val (.int (1 : Int32)), .val (.int (0 : Int32))] []))
  refine own_st (fun u_ k_ => XS.iinc X0.here hx rfl (hb hby own_d_jdk_48_13_65) rfl (l' := #[.val (.ref a), .val (.ref b), .val (.int (1 : Int32)), .val (.int (1 : Int32))]) rfl k_) ?_
  show own_Go p e below _ (s₁.setTop (mkF m 68 #[.val (.ref a), .val (.ref b), .val (.int (1 : Int32)), .val (.int (1 : Int32))] []))
  refine own_st (fun u_ k_ => XS.goto X0.here hx rfl (pc0 := 68) (pc' := 49) rfl (hb hby own_d_jdk_48_13_68) (by decide) (by decide) k_) ?_
  show own_Go p e below _ (s₁.setTop (mkF m 49 #[.val (.ref a), .val (.ref b), .val (.int (1 : Int32)), .val (.int (1 : Int32))] []))
  refine own_st (fun u_ k_ => XS.iloadN X0.here hx rfl (hb hby own_d_jdk_48_13_49) rfl k_) ?_
  show own_Go p e below _ (s₁.setTop (mkF m 50 #[.val (.ref a), .val (.ref b), .val (.int (1 : Int32)), .val (.int (1 : Int32))] [(.int (1 : Int32))]))
  refine own_st (fun u_ k_ => XS.iloadN X0.here hx rfl (hb hby own_d_jdk_48_13_50) rfl k_) ?_
  show own_Go p e below _ (s₁.setTop (mkF m 51 #[.val (.ref a), .val (.ref b), .val (.int (1 : Int32)), .val (.int (1 : Int32))] [(.int (1 : Int32)), (.int (1 : Int32))]))
  refine own_st (fun u_ k_ => XS.icmpYes X0.here hx rfl (pc0 := 51) (pc' := 71) rfl (hb hby own_d_jdk_48_13_51) rfl (XT.ii_ge_t (by decide)) (by decide) (by decide) k_) ?_
  show own_Go p e below _ (s₁.setTop (mkF m 71 #[.val (.ref a), .val (.ref b), .val (.int (1 : Int32)), .val (.int (1 : Int32))] []))
  refine own_st (fun u_ k_ => XS.iconst X0.here hx rfl (hb hby own_d_jdk_48_13_71) k_) ?_
  show own_Go p e below _ (s₁.setTop (mkF m 72 #[.val (.ref a), .val (.ref b), .val (.int (1 : Int32)), .val (.int (1 : Int32))] [(.int (-1 : Int32))]))
  exact own_retX X0 hx hlk hret rfl (Or.inl ⟨rfl, by simp, _, rfl⟩) (hb hby own_d_jdk_48_13_72) (by decide) (by decide) (show QrmMis1_2 Z w0 wl wp mr a b ka kb v0 v1 h0 n0 (some (.int (-1 : Int32))) s₁.heap _ from (by rw [e0]; exact ⟨rfl, N0, rfl⟩))
theorem own_ef_rmU1_2 (m : MethodId) (a : Addr) (b : Addr)  : entryFrame m #[(.ref a), (.ref b)] 3 = mkF m 0 #[.val (.ref a), .val (.ref b), .unset] [] := by first | (simp [entryFrame, mkF, argsToLocals, Value.category, maxLocals]; done) | rfl
def QrmU1_2 (Z : State) (w0 : Addr) (wl : Addr) (wp : Addr) (mr : Addr) (a : Addr) (b : Addr) (ka : ClassId) (kb : ClassId) (v0 : Int32) (v1 : Int32) (h0 : Heap) (n0 : Nat) (v : Option Value) (h : Heap) (L : List Loc) : Prop := v = some (.int (-1 : Int32)) ∧ Fr n0 L ∧ h = h0
set_option maxRecDepth 65536 in
set_option maxHeartbeats 40000000 in
theorem rmU1_2 (l : Launch) (Z : State) (a0 : Array Value) (hw : ∀ d ∈ tables_1, d.before a0 Z = true) (ws : List Jvm.Cond) (w0 : Addr) (wl : Addr) (wp : Addr) (mr : Addr) (hS : own_S Z w0 wl wp mr) (a : Addr) (b : Addr) (ka : ClassId) (kb : ClassId) (v0 : Int32) (v1 : Int32) (h0 : Heap) (n0 : Nat) (O0 : Old Z n0 h0) (V : Arv Z h0 a ka .byte (1 : Int32) [(.int v0)] (.int (0 : Int32))) (U : Arv Z h0 b kb .byte (2 : Int32) [(.int v0), (.int v1)] (.int (0 : Int32))) (ne : a ≠ b) :
    own_Met l (⟨"java/util/Arrays", "compareUnsigned", "([B[B)I"⟩ : MethodName) jdk_65_method_201_code 3 (some .int) ws ({ frames := 1, cells := 0, slots := 0, locals := 15 } : Room) Z h0 #[(.ref a), (.ref b)] (QrmU1_2 Z w0 wl wp mr a b ka kb v0 v1 h0 n0) := by
  refine own_body (plainFor_of_name own_pn_219) ?_
  intro p e s m below meth c s₁ hx hby hml hown hnm hret hlk hZ e0 X0
  have N0 := Fr.nil n0
  refine own_st (fun u_ k_ => castTop (own_ef_rmU1_2 m a b) k_) ?_
  show own_Go p e below _ (s₁.setTop (mkF m 0 #[.val (.ref a), .val (.ref b), .unset] []))
  refine own_st (fun u_ k_ => XS.aloadN X0.here hx rfl (hb hby own_d_jdk_65_201_0) rfl rfl k_) ?_
  show own_Go p e below _ (s₁.setTop (mkF m 1 #[.val (.ref a), .val (.ref b), .unset] [(.ref a)]))
  refine own_st (fun u_ k_ => XS.aloadN X0.here hx rfl (hb hby own_d_jdk_65_201_1) rfl rfl k_) ?_
  show own_Go p e below _ (s₁.setTop (mkF m 2 #[.val (.ref a), .val (.ref b), .unset] [(.ref b), (.ref a)]))
  refine own_st (fun u_ k_ => XT.acmpYes X0.here hx rfl (pc0 := 2) (pc' := 7) rfl (hb hby own_d_jdk_65_201_2) rfl rfl rfl (XT.aa_ne_t (own_rne ne)) (by decide) (by decide) k_) ?_
  show own_Go p e below _ (s₁.setTop (mkF m 7 #[.val (.ref a), .val (.ref b), .unset] []))
  refine own_st (fun u_ k_ => XS.aloadN X0.here hx rfl (hb hby own_d_jdk_65_201_7) rfl rfl k_) ?_
  show own_Go p e below _ (s₁.setTop (mkF m 8 #[.val (.ref a), .val (.ref b), .unset] [(.ref a)]))
  refine own_st (fun u_ k_ => XS.ifnullNo X0.here hx rfl (hb hby own_d_jdk_65_201_8) rfl k_) ?_
  show own_Go p e below _ (s₁.setTop (mkF m 11 #[.val (.ref a), .val (.ref b), .unset] []))
  refine own_st (fun u_ k_ => XS.aloadN X0.here hx rfl (hb hby own_d_jdk_65_201_11) rfl rfl k_) ?_
  show own_Go p e below _ (s₁.setTop (mkF m 12 #[.val (.ref a), .val (.ref b), .unset] [(.ref b)]))
  refine own_st (fun u_ k_ => XS.ifnonnullYes X0.here hx rfl (pc0 := 12) (pc' := 25) rfl (hb hby own_d_jdk_65_201_12) rfl (by decide) (by decide) k_) ?_
  show own_Go p e below _ (s₁.setTop (mkF m 25 #[.val (.ref a), .val (.ref b), .unset] []))
  refine own_st (fun u_ k_ => XS.aloadN X0.here hx rfl (hb hby own_d_jdk_65_201_25) rfl rfl k_) ?_
  show own_Go p e below _ (s₁.setTop (mkF m 26 #[.val (.ref a), .val (.ref b), .unset] [(.ref a)]))
  refine own_st (fun u_ k_ => XS.aloadN X0.here hx rfl (hb hby own_d_jdk_65_201_26) rfl rfl k_) ?_
  show own_Go p e below _ (s₁.setTop (mkF m 27 #[.val (.ref a), .val (.ref b), .unset] [(.ref b), (.ref a)]))
  refine own_st (fun u_ k_ => XS.aloadN X0.here hx rfl (hb hby own_d_jdk_65_201_27) rfl rfl k_) ?_
  show own_Go p e below _ (s₁.setTop (mkF m 28 #[.val (.ref a), .val (.ref b), .unset] [(.ref a), (.ref b), (.ref a)]))
  obtain ⟨cl240, Ar240, -, S240, N240, -, -⟩ := id V
  refine own_st (X0.arraylength hx (by rw [e0]; exact Ar240.1) (State.isArrayOf_alike hZ.alike Ar240.2.1) (g := (mkF m 28 #[.val (.ref a), .val (.ref b), .unset] [(.ref a), (.ref b), (.ref a)])) rfl rfl (hb hby own_d_jdk_65_201_28)) ?_
  rw [len_of S240 N240]
  show own_Go p e below _ (s₁.setTop (mkF m 29 #[.val (.ref a), .val (.ref b), .unset] [(.int (1 : Int32)), (.ref b), (.ref a)]))
  refine own_st (fun u_ k_ => XS.aloadN X0.here hx rfl (hb hby own_d_jdk_65_201_29) rfl rfl k_) ?_
  show own_Go p e below _ (s₁.setTop (mkF m 30 #[.val (.ref a), .val (.ref b), .unset] [(.ref b), (.int (1 : Int32)), (.ref b), (.ref a)]))
  obtain ⟨cl241, Ar241, -, S241, N241, -, -⟩ := id U
  refine own_st (X0.arraylength hx (by rw [e0]; exact Ar241.1) (State.isArrayOf_alike hZ.alike Ar241.2.1) (g := (mkF m 30 #[.val (.ref a), .val (.ref b), .unset] [(.ref b), (.int (1 : Int32)), (.ref b), (.ref a)])) rfl rfl (hb hby own_d_jdk_65_201_30)) ?_
  rw [len_of S241 N241]
  show own_Go p e below _ (s₁.setTop (mkF m 31 #[.val (.ref a), .val (.ref b), .unset] [(.int (2 : Int32)), (.int (1 : Int32)), (.ref b), (.ref a)]))
  obtain ⟨T242, v242, L242, X242, hQ242, st242⟩ := own_callS X0 hx hZ (y := (⟨"java/lang/Math", "min", "(II)I"⟩ : MethodName)) hown (hw _ (List.mem_of_getElem? (i := 103) rfl)) (hw _ (List.mem_of_getElem? (i := 104) rfl)) (hw _ (List.mem_of_getElem? (i := 105) rfl)) (hw _ (List.mem_of_getElem? (i := 106) rfl)) own_lm_205 (rmMin1_2 l Z a0 hw [] w0 wl wp mr hS  h0 n0 O0 ) e0 own_pd_206 (argsL := [(.int (1 : Int32)), (.int (2 : Int32))]) (rest := [(.ref b), (.ref a)]) rfl rfl (g := (mkF m 31 #[.val (.ref a), .val (.ref b), .unset] [(.int (2 : Int32)), (.int (1 : Int32)), (.ref b), (.ref a)])) rfl (by rw [hml]; rfl) rfl (hb hby own_d_jdk_65_201_31) (W := 2) rfl (by decide) (by decide) (by decide) (by decide)
  obtain ⟨rfl, M242, e242⟩ := hQ242
  have N242 := Fr.app N0 M242
  refine own_st (fun u_ k_ => st242 u_ k_) ?_
  show own_Go p e below _ (T242.setTop (mkF m 34 #[.val (.ref a), .val (.ref b), .unset] [(.int (1 : Int32)), (.ref b), (.ref a)]))
  obtain ⟨T243, v243, L243, X243, hQ243, st243⟩ := own_callS X242 hx hZ (y := (⟨"jdk/internal/util/ArraysSupport", "mismatch", "([B[BI)I"⟩ : MethodName)) hown (hw _ (List.mem_of_getElem? (i := 107) rfl)) (hw _ (List.mem_of_getElem? (i := 108) rfl)) (hw _ (List.mem_of_getElem? (i := 109) rfl)) (hw _ (List.mem_of_getElem? (i := 110) rfl)) own_lm_208 (rmMis1_2 l Z a0 hw [] w0 wl wp mr hS a b ka kb v0 v1 h0 n0 O0 V U) e242 own_pd_209 (argsL := [(.ref a), (.ref b), (.int (1 : Int32))]) (rest := []) rfl rfl (g := (mkF m 34 #[.val (.ref a), .val (.ref b), .unset] [(.int (1 : Int32)), (.ref b), (.ref a)])) rfl (by rw [hml]; rfl) rfl (hb hby own_d_jdk_65_201_34) (W := 0) rfl (by decide) (by decide) (by decide) (by decide)
  obtain ⟨rfl, M243, e243⟩ := hQ243
  have N243 := Fr.app N242 M243
  refine own_st (fun u_ k_ => st243 u_ k_) ?_
  show own_Go p e below _ (T243.setTop (mkF m 37 #[.val (.ref a), .val (.ref b), .unset] [(.int (-1 : Int32))]))
  refine own_st (fun u_ k_ => XS.istoreN X243.here hx rfl (hb hby own_d_jdk_65_201_37) rfl (l' := #[.val (.ref a), .val (.ref b), .val (.int (-1 : Int32))]) rfl k_) ?_
  show own_Go p e below _ (T243.setTop (mkF m 38 #[.val (.ref a), .val (.ref b), .val (.int (-1 : Int32))] []))
  refine own_st (fun u_ k_ => XS.iloadN X243.here hx rfl (hb hby own_d_jdk_65_201_38) rfl k_) ?_
  show own_Go p e below _ (T243.setTop (mkF m 39 #[.val (.ref a), .val (.ref b), .val (.int (-1 : Int32))] [(.int (-1 : Int32))]))
  refine own_st (fun u_ k_ => XS.ifYes X243.here hx rfl (pc0 := 39) (pc' := 52) rfl (hb hby own_d_jdk_65_201_39) rfl (XT.i0_lt_t (by decide)) (by decide) (by decide) k_) ?_
  show own_Go p e below _ (T243.setTop (mkF m 52 #[.val (.ref a), .val (.ref b), .val (.int (-1 : Int32))] []))
  refine own_st (fun u_ k_ => XS.aloadN X243.here hx rfl (hb hby own_d_jdk_65_201_52) rfl rfl k_) ?_
  show own_Go p e below _ (T243.setTop (mkF m 53 #[.val (.ref a), .val (.ref b), .val (.int (-1 : Int32))] [(.ref a)]))
  obtain ⟨cl244, Ar244, -, S244, N244, -, -⟩ := id V
  refine own_st (X243.arraylength hx (by rw [e243]; exact Ar244.1) (State.isArrayOf_alike hZ.alike Ar244.2.1) (g := (mkF m 53 #[.val (.ref a), .val (.ref b), .val (.int (-1 : Int32))] [(.ref a)])) rfl rfl (hb hby own_d_jdk_65_201_53)) ?_
  rw [len_of S244 N244]
  show own_Go p e below _ (T243.setTop (mkF m 54 #[.val (.ref a), .val (.ref b), .val (.int (-1 : Int32))] [(.int (1 : Int32))]))
  refine own_st (fun u_ k_ => XS.aloadN X243.here hx rfl (hb hby own_d_jdk_65_201_54) rfl rfl k_) ?_
  show own_Go p e below _ (T243.setTop (mkF m 55 #[.val (.ref a), .val (.ref b), .val (.int (-1 : Int32))] [(.ref b), (.int (1 : Int32))]))
  obtain ⟨cl245, Ar245, -, S245, N245, -, -⟩ := id U
  refine own_st (X243.arraylength hx (by rw [e243]; exact Ar245.1) (State.isArrayOf_alike hZ.alike Ar245.2.1) (g := (mkF m 55 #[.val (.ref a), .val (.ref b), .val (.int (-1 : Int32))] [(.ref b), (.int (1 : Int32))])) rfl rfl (hb hby own_d_jdk_65_201_55)) ?_
  rw [len_of S245 N245]
  show own_Go p e below _ (T243.setTop (mkF m 56 #[.val (.ref a), .val (.ref b), .val (.int (-1 : Int32))] [(.int (2 : Int32)), (.int (1 : Int32))]))
  refine own_st (fun u_ k_ => XS.isub X243.here hx rfl (hb hby own_d_jdk_65_201_56) rfl k_) ?_
  show own_Go p e below _ (T243.setTop (mkF m 57 #[.val (.ref a), .val (.ref b), .val (.int (-1 : Int32))] [(.int (-1 : Int32))]))
  exact own_retX X243 hx hlk hret rfl (Or.inl ⟨rfl, by simp, _, rfl⟩) (hb hby own_d_jdk_65_201_57) (by decide) (by decide) (show QrmU1_2 Z w0 wl wp mr a b ka kb v0 v1 h0 n0 (some (.int (-1 : Int32))) T243.heap _ from (by rw [e243]; exact ⟨rfl, N243, rfl⟩))
theorem own_ef_rmV1_2 (m : MethodId) (pp : Addr) (qq : Addr)  : entryFrame m #[(.ref pp), (.ref qq)] 3 = mkF m 0 #[.val (.ref pp), .val (.ref qq), .unset] [] := by first | (simp [entryFrame, mkF, argsToLocals, Value.category, maxLocals]; done) | rfl
def QrmV1_2 (Z : State) (w0 : Addr) (wl : Addr) (wp : Addr) (mr : Addr) (pp : Addr) (qq : Addr) (a : Addr) (b : Addr) (ka : ClassId) (kb : ClassId) (v0 : Int32) (v1 : Int32) (h0 : Heap) (n0 : Nat) (v : Option Value) (h : Heap) (L : List Loc) : Prop := v = some (.int (-1 : Int32)) ∧ Fr n0 L ∧ h = h0
set_option maxRecDepth 65536 in
set_option maxHeartbeats 40000000 in
theorem rmV1_2 (l : Launch) (Z : State) (a0 : Array Value) (hw : ∀ d ∈ tables_1, d.before a0 Z = true) (ws : List Jvm.Cond) (w0 : Addr) (wl : Addr) (wp : Addr) (mr : Addr) (hS : own_S Z w0 wl wp mr) (pp : Addr) (qq : Addr) (a : Addr) (b : Addr) (ka : ClassId) (kb : ClassId) (v0 : Int32) (v1 : Int32) (h0 : Heap) (n0 : Nat) (O0 : Old Z n0 h0) (Ep : Exa Z h0 pp "com/example/tasdik/tasdik/core/cbor/CborValue") (Eq : Exa Z h0 qq "com/example/tasdik/tasdik/core/cbor/CborValue") (T1 : Fld Z h0 pp "com/example/tasdik/tasdik/core/cbor/CborValue" "type" "Lcom/example/tasdik/tasdik/core/cbor/CborValue$Type;" (.ref w0)) (T2 : Fld Z h0 qq "com/example/tasdik/tasdik/core/cbor/CborValue" "type" "Lcom/example/tasdik/tasdik/core/cbor/CborValue$Type;" (.ref w0)) (B1 : Fld Z h0 pp "com/example/tasdik/tasdik/core/cbor/CborValue" "bytes" "[B" (.ref a)) (B2 : Fld Z h0 qq "com/example/tasdik/tasdik/core/cbor/CborValue" "bytes" "[B" (.ref b)) (V : Arv Z h0 a ka .byte (1 : Int32) [(.int v0)] (.int (0 : Int32))) (U : Arv Z h0 b kb .byte (2 : Int32) [(.int v0), (.int v1)] (.int (0 : Int32))) (ne : a ≠ b) :
    own_Met l (⟨"com/example/tasdik/tasdik/core/cbor/CborValue", "compare", "(Lcom/example/tasdik/tasdik/core/cbor/CborValue;Lcom/example/tasdik/tasdik/core/cbor/CborValue;)I"⟩ : MethodName) prog_21_method_18_code 3 (some .int) ws ({ frames := 2, cells := 0, slots := 0, locals := 43 } : Room) Z h0 #[(.ref pp), (.ref qq)] (QrmV1_2 Z w0 wl wp mr pp qq a b ka kb v0 v1 h0 n0) := by
  refine own_body (plainFor_of_name own_pn_119) ?_
  intro p e s m below meth c s₁ hx hby hml hown hnm hret hlk hZ e0 X0
  have N0 := Fr.nil n0
  refine own_st (fun u_ k_ => castTop (own_ef_rmV1_2 m pp qq) k_) ?_
  show own_Go p e below _ (s₁.setTop (mkF m 0 #[.val (.ref pp), .val (.ref qq), .unset] []))
  refine own_st (fun u_ k_ => XS.aloadN X0.here hx rfl (hb hby own_d_prog_21_18_0) rfl rfl k_) ?_
  show own_Go p e below _ (s₁.setTop (mkF m 1 #[.val (.ref pp), .val (.ref qq), .unset] [(.ref pp)]))
  obtain ⟨T246, X246, e246, st246⟩ := getF X0 hx hZ hown (host := "") (Or.inl (hw _ (List.mem_of_getElem? (i := 31) rfl))) Via.refl e0 T1 (g := (mkF m 1 #[.val (.ref pp), .val (.ref qq), .unset] [(.ref pp)])) rfl rfl (hb hby own_d_prog_21_18_1)
  refine own_st (fun u_ k_ => st246 u_ k_) ?_
  show own_Go p e below _ (T246.setTop (mkF m 4 #[.val (.ref pp), .val (.ref qq), .unset] [(.ref w0)]))
  refine own_st (fun u_ k_ => XS.aloadN X246.here hx rfl (hb hby own_d_prog_21_18_4) rfl rfl k_) ?_
  show own_Go p e below _ (T246.setTop (mkF m 5 #[.val (.ref pp), .val (.ref qq), .unset] [(.ref qq), (.ref w0)]))
  obtain ⟨T247, X247, e247, st247⟩ := getF X246 hx hZ hown (host := "") (Or.inl (hw _ (List.mem_of_getElem? (i := 31) rfl))) Via.refl e246 T2 (g := (mkF m 5 #[.val (.ref pp), .val (.ref qq), .unset] [(.ref qq), (.ref w0)])) rfl rfl (hb hby own_d_prog_21_18_5)
  refine own_st (fun u_ k_ => st247 u_ k_) ?_
  show own_Go p e below _ (T247.setTop (mkF m 8 #[.val (.ref pp), .val (.ref qq), .unset] [(.ref w0), (.ref w0)]))
  have F248 : Exa Z h0 w0 "com/example/tasdik/tasdik/core/cbor/CborValue$Type" := Exa.ext O0.2 hS.2.1
  have F249 : Fld Z h0 w0 "java/lang/Enum" "ordinal" "I" (.int (1 : Int32)) := Fld.ext O0.2 hS.2.2.1
  obtain ⟨T250, v250, L250, X250, hQ250, st250⟩ := own_callU X247 hx hZ (y := (⟨"com/example/tasdik/tasdik/core/cbor/CborValue$Type", "compareTo", "(Ljava/lang/Enum;)I"⟩ : MethodName)) (z := (⟨"java/lang/Enum", "compareTo", "(Ljava/lang/Enum;)I"⟩ : MethodName)) hown (hw _ (List.mem_of_getElem? (i := 78) rfl)) (hw _ (List.mem_of_getElem? (i := 79) rfl)) (hw _ (List.mem_of_getElem? (i := 80) rfl)) (hw _ (List.mem_of_getElem? (i := 82) rfl)) (hw _ (List.mem_of_getElem? (i := 81) rfl)) (hw _ (List.mem_of_getElem? (i := 83) rfl)) (hw _ (List.mem_of_getElem? (i := 84) rfl)) own_lm_225 (rmC l Z a0 hw [] w0 wl wp mr hS w0 (1 : Int32) h0 n0 O0 F248 F249) e247 F248 own_pd_226 (argsL := [(.ref w0)]) (rest := []) rfl rfl (g := (mkF m 8 #[.val (.ref pp), .val (.ref qq), .unset] [(.ref w0), (.ref w0)])) rfl (by rw [hml]; rfl) rfl (hb hby own_d_prog_21_18_8) (W := 0) rfl (by decide) (by decide) (by decide) (by decide)
  obtain ⟨rfl, M250, e250⟩ := hQ250
  have N250 := Fr.app N0 M250
  refine own_st (fun u_ k_ => st250 u_ k_) ?_
  show own_Go p e below _ (T250.setTop (mkF m 11 #[.val (.ref pp), .val (.ref qq), .unset] [(.int ((1 : Int32) - (1 : Int32)))]))
  refine own_st (fun u_ k_ => XS.istoreN X250.here hx rfl (hb hby own_d_prog_21_18_11) rfl (l' := #[.val (.ref pp), .val (.ref qq), .val (.int ((1 : Int32) - (1 : Int32)))]) rfl k_) ?_
  show own_Go p e below _ (T250.setTop (mkF m 12 #[.val (.ref pp), .val (.ref qq), .val (.int ((1 : Int32) - (1 : Int32)))] []))
  refine own_st (fun u_ k_ => XS.iloadN X250.here hx rfl (hb hby own_d_prog_21_18_12) rfl k_) ?_
  show own_Go p e below _ (T250.setTop (mkF m 13 #[.val (.ref pp), .val (.ref qq), .val (.int ((1 : Int32) - (1 : Int32)))] [(.int ((1 : Int32) - (1 : Int32)))]))
  refine own_st (fun u_ k_ => XS.ifNo X250.here hx rfl (hb hby own_d_prog_21_18_13) rfl (XT.i0_ne_f (by decide)) k_) ?_
  show own_Go p e below _ (T250.setTop (mkF m 16 #[.val (.ref pp), .val (.ref qq), .val (.int ((1 : Int32) - (1 : Int32)))] []))
  refine own_st (fun u_ k_ => XS.aloadN X250.here hx rfl (hb hby own_d_prog_21_18_16) rfl rfl k_) ?_
  show own_Go p e below _ (T250.setTop (mkF m 17 #[.val (.ref pp), .val (.ref qq), .val (.int ((1 : Int32) - (1 : Int32)))] [(.ref pp)]))
  obtain ⟨T251, X251, e251, st251⟩ := getF X250 hx hZ hown (host := "") (Or.inl (hw _ (List.mem_of_getElem? (i := 31) rfl))) Via.refl e250 T1 (g := (mkF m 17 #[.val (.ref pp), .val (.ref qq), .val (.int ((1 : Int32) - (1 : Int32)))] [(.ref pp)])) rfl rfl (hb hby own_d_prog_21_18_17)
  refine own_st (fun u_ k_ => st251 u_ k_) ?_
  show own_Go p e below _ (T251.setTop (mkF m 20 #[.val (.ref pp), .val (.ref qq), .val (.int ((1 : Int32) - (1 : Int32)))] [(.ref w0)]))
  obtain ⟨T252, v252, L252, X252, hQ252, st252⟩ := own_callU X251 hx hZ (y := (⟨"com/example/tasdik/tasdik/core/cbor/CborValue$Type", "ordinal", "()I"⟩ : MethodName)) (z := (⟨"java/lang/Enum", "ordinal", "()I"⟩ : MethodName)) hown (hw _ (List.mem_of_getElem? (i := 93) rfl)) (hw _ (List.mem_of_getElem? (i := 94) rfl)) (hw _ (List.mem_of_getElem? (i := 95) rfl)) (hw _ (List.mem_of_getElem? (i := 97) rfl)) (hw _ (List.mem_of_getElem? (i := 96) rfl)) (hw _ (List.mem_of_getElem? (i := 83) rfl)) (hw _ (List.mem_of_getElem? (i := 98) rfl)) own_lm_225 (rmO l Z a0 hw [] w0 wl wp mr hS w0 (1 : Int32) h0 n0 O0 F249) e251 F248 own_pd_233 (argsL := []) (rest := []) rfl rfl (g := (mkF m 20 #[.val (.ref pp), .val (.ref qq), .val (.int ((1 : Int32) - (1 : Int32)))] [(.ref w0)])) rfl (by rw [hml]; rfl) rfl (hb hby own_d_prog_21_18_20) (W := 0) rfl (by decide) (by decide) (by decide) (by decide)
  obtain ⟨rfl, M252, e252⟩ := hQ252
  have N252 := Fr.app N250 M252
  refine own_st (fun u_ k_ => st252 u_ k_) ?_
  show own_Go p e below _ (T252.setTop (mkF m 23 #[.val (.ref pp), .val (.ref qq), .val (.int ((1 : Int32) - (1 : Int32)))] [(.int (1 : Int32))]))
  refine own_st (fun u_ k_ => XS.tswIn X252.here hx rfl (pc0 := 23) (pc' := 92) (o := 69) rfl (hb hby own_d_prog_21_18_23) rfl (by decide) (by decide) (by decide) (by decide) k_) ?_
  show own_Go p e below _ (T252.setTop (mkF m 92 #[.val (.ref pp), .val (.ref qq), .val (.int ((1 : Int32) - (1 : Int32)))] []))
  refine own_st (fun u_ k_ => XS.aloadN X252.here hx rfl (hb hby own_d_prog_21_18_92) rfl rfl k_) ?_
  show own_Go p e below _ (T252.setTop (mkF m 93 #[.val (.ref pp), .val (.ref qq), .val (.int ((1 : Int32) - (1 : Int32)))] [(.ref pp)]))
  obtain ⟨T253, X253, e253, st253⟩ := getF X252 hx hZ hown (host := "") (Or.inl (hw _ (List.mem_of_getElem? (i := 37) rfl))) Via.refl e252 B1 (g := (mkF m 93 #[.val (.ref pp), .val (.ref qq), .val (.int ((1 : Int32) - (1 : Int32)))] [(.ref pp)])) rfl rfl (hb hby own_d_prog_21_18_93)
  refine own_st (fun u_ k_ => st253 u_ k_) ?_
  show own_Go p e below _ (T253.setTop (mkF m 96 #[.val (.ref pp), .val (.ref qq), .val (.int ((1 : Int32) - (1 : Int32)))] [(.ref a)]))
  refine own_st (fun u_ k_ => XS.aloadN X253.here hx rfl (hb hby own_d_prog_21_18_96) rfl rfl k_) ?_
  show own_Go p e below _ (T253.setTop (mkF m 97 #[.val (.ref pp), .val (.ref qq), .val (.int ((1 : Int32) - (1 : Int32)))] [(.ref qq), (.ref a)]))
  obtain ⟨T254, X254, e254, st254⟩ := getF X253 hx hZ hown (host := "") (Or.inl (hw _ (List.mem_of_getElem? (i := 37) rfl))) Via.refl e253 B2 (g := (mkF m 97 #[.val (.ref pp), .val (.ref qq), .val (.int ((1 : Int32) - (1 : Int32)))] [(.ref qq), (.ref a)])) rfl rfl (hb hby own_d_prog_21_18_97)
  refine own_st (fun u_ k_ => st254 u_ k_) ?_
  show own_Go p e below _ (T254.setTop (mkF m 100 #[.val (.ref pp), .val (.ref qq), .val (.int ((1 : Int32) - (1 : Int32)))] [(.ref b), (.ref a)]))
  obtain ⟨T255, v255, L255, X255, hQ255, st255⟩ := own_callS X254 hx hZ (y := (⟨"java/util/Arrays", "compareUnsigned", "([B[B)I"⟩ : MethodName)) hown (hw _ (List.mem_of_getElem? (i := 99) rfl)) (hw _ (List.mem_of_getElem? (i := 100) rfl)) (hw _ (List.mem_of_getElem? (i := 101) rfl)) (hw _ (List.mem_of_getElem? (i := 102) rfl)) own_lm_240 (rmU1_2 l Z a0 hw [] w0 wl wp mr hS a b ka kb v0 v1 h0 n0 O0 V U ne) e254 own_pd_241 (argsL := [(.ref a), (.ref b)]) (rest := []) rfl rfl (g := (mkF m 100 #[.val (.ref pp), .val (.ref qq), .val (.int ((1 : Int32) - (1 : Int32)))] [(.ref b), (.ref a)])) rfl (by rw [hml]; rfl) rfl (hb hby own_d_prog_21_18_100) (W := 0) rfl (by decide) (by decide) (by decide) (by decide)
  obtain ⟨rfl, M255, e255⟩ := hQ255
  have N255 := Fr.app N252 M255
  refine own_st (fun u_ k_ => st255 u_ k_) ?_
  show own_Go p e below _ (T255.setTop (mkF m 103 #[.val (.ref pp), .val (.ref qq), .val (.int ((1 : Int32) - (1 : Int32)))] [(.int (-1 : Int32))]))
  refine own_st (fun u_ k_ => XS.goto X255.here hx rfl (pc0 := 103) (pc' := 187) rfl (hb hby own_d_prog_21_18_103) (by decide) (by decide) k_) ?_
  show own_Go p e below _ (T255.setTop (mkF m 187 #[.val (.ref pp), .val (.ref qq), .val (.int ((1 : Int32) - (1 : Int32)))] [(.int (-1 : Int32))]))
  refine own_st (fun u_ k_ => XS.istoreN X255.here hx rfl (hb hby own_d_prog_21_18_187) rfl (l' := #[.val (.ref pp), .val (.ref qq), .val (.int (-1 : Int32))]) rfl k_) ?_
  show own_Go p e below _ (T255.setTop (mkF m 188 #[.val (.ref pp), .val (.ref qq), .val (.int (-1 : Int32))] []))
  refine own_st (fun u_ k_ => XS.iloadN X255.here hx rfl (hb hby own_d_prog_21_18_188) rfl k_) ?_
  show own_Go p e below _ (T255.setTop (mkF m 189 #[.val (.ref pp), .val (.ref qq), .val (.int (-1 : Int32))] [(.int (-1 : Int32))]))
  exact own_retX X255 hx hlk hret rfl (Or.inl ⟨rfl, by simp, _, rfl⟩) (hb hby own_d_prog_21_18_189) (by decide) (by decide) (show QrmV1_2 Z w0 wl wp mr pp qq a b ka kb v0 v1 h0 n0 (some (.int (-1 : Int32))) T255.heap _ from (by rw [e255]; exact ⟨rfl, N255, rfl⟩))
theorem own_ef_rmE1_2 (m : MethodId) (pp : Addr) (qq : Addr)  : entryFrame m #[(.ref pp), (.ref qq)] 3 = mkF m 0 #[.val (.ref pp), .val (.ref qq), .unset] [] := by first | (simp [entryFrame, mkF, argsToLocals, Value.category, maxLocals]; done) | rfl
def QrmE1_2 (Z : State) (w0 : Addr) (wl : Addr) (wp : Addr) (mr : Addr) (pp : Addr) (qq : Addr) (a : Addr) (b : Addr) (ka : ClassId) (kb : ClassId) (v0 : Int32) (v1 : Int32) (h0 : Heap) (n0 : Nat) (v : Option Value) (h : Heap) (L : List Loc) : Prop := v = some (.int (0 : Int32)) ∧ Fr n0 L ∧ h = h0
set_option maxRecDepth 65536 in
set_option maxHeartbeats 40000000 in
theorem rmE1_2 (l : Launch) (Z : State) (a0 : Array Value) (hw : ∀ d ∈ tables_1, d.before a0 Z = true) (ws : List Jvm.Cond) (w0 : Addr) (wl : Addr) (wp : Addr) (mr : Addr) (hS : own_S Z w0 wl wp mr) (pp : Addr) (qq : Addr) (a : Addr) (b : Addr) (ka : ClassId) (kb : ClassId) (v0 : Int32) (v1 : Int32) (h0 : Heap) (n0 : Nat) (O0 : Old Z n0 h0) (Ep : Exa Z h0 pp "com/example/tasdik/tasdik/core/cbor/CborValue") (Eq : Exa Z h0 qq "com/example/tasdik/tasdik/core/cbor/CborValue") (T1 : Fld Z h0 pp "com/example/tasdik/tasdik/core/cbor/CborValue" "type" "Lcom/example/tasdik/tasdik/core/cbor/CborValue$Type;" (.ref w0)) (T2 : Fld Z h0 qq "com/example/tasdik/tasdik/core/cbor/CborValue" "type" "Lcom/example/tasdik/tasdik/core/cbor/CborValue$Type;" (.ref w0)) (B1 : Fld Z h0 pp "com/example/tasdik/tasdik/core/cbor/CborValue" "bytes" "[B" (.ref a)) (B2 : Fld Z h0 qq "com/example/tasdik/tasdik/core/cbor/CborValue" "bytes" "[B" (.ref b)) (V : Arv Z h0 a ka .byte (1 : Int32) [(.int v0)] (.int (0 : Int32))) (U : Arv Z h0 b kb .byte (2 : Int32) [(.int v0), (.int v1)] (.int (0 : Int32))) (ne : a ≠ b) :
    own_Met l (⟨"com/example/tasdik/tasdik/core/cbor/CborValue", "equals", "(Ljava/lang/Object;)Z"⟩ : MethodName) prog_21_method_16_code 3 (some .boolean) ws ({ frames := 3, cells := 0, slots := 0, locals := 57 } : Room) Z h0 #[(.ref pp), (.ref qq)] (QrmE1_2 Z w0 wl wp mr pp qq a b ka kb v0 v1 h0 n0) := by
  refine own_body (plainFor_of_name own_pn_119) ?_
  intro p e s m below meth c s₁ hx hby hml hown hnm hret hlk hZ e0 X0
  have N0 := Fr.nil n0
  refine own_st (fun u_ k_ => castTop (own_ef_rmE1_2 m pp qq) k_) ?_
  show own_Go p e below _ (s₁.setTop (mkF m 0 #[.val (.ref pp), .val (.ref qq), .unset] []))
  refine own_st (fun u_ k_ => XS.aloadN X0.here hx rfl (hb hby own_d_prog_21_16_0) rfl rfl k_) ?_
  show own_Go p e below _ (s₁.setTop (mkF m 1 #[.val (.ref pp), .val (.ref qq), .unset] [(.ref qq)]))
  obtain ⟨T256, X256, e256, st256⟩ := instY X0 hx hZ hown (hw _ (List.mem_of_getElem? (i := 9) rfl)) e0 (Ins.self Eq) (g := (mkF m 1 #[.val (.ref pp), .val (.ref qq), .unset] [(.ref qq)])) rfl rfl (hb hby own_d_prog_21_16_1)
  refine own_st (fun u_ k_ => st256 u_ k_) ?_
  show own_Go p e below _ (T256.setTop (mkF m 4 #[.val (.ref pp), .val (.ref qq), .unset] [(.int (1 : Int32))]))
  refine own_st (fun u_ k_ => XS.ifNo X256.here hx rfl (hb hby own_d_prog_21_16_4) rfl (XT.i0_eq_f (by decide)) k_) ?_
  show own_Go p e below _ (T256.setTop (mkF m 7 #[.val (.ref pp), .val (.ref qq), .unset] []))
  refine own_st (fun u_ k_ => XS.aloadN X256.here hx rfl (hb hby own_d_prog_21_16_7) rfl rfl k_) ?_
  show own_Go p e below _ (T256.setTop (mkF m 8 #[.val (.ref pp), .val (.ref qq), .unset] [(.ref qq)]))
  obtain ⟨T257, X257, e257, st257⟩ := castY X256 hx hZ hown (hw _ (List.mem_of_getElem? (i := 9) rfl)) e256 (Ins.self Eq) (g := (mkF m 8 #[.val (.ref pp), .val (.ref qq), .unset] [(.ref qq)])) rfl rfl (hb hby own_d_prog_21_16_8)
  refine own_st (fun u_ k_ => st257 u_ k_) ?_
  show own_Go p e below _ (T257.setTop (mkF m 11 #[.val (.ref pp), .val (.ref qq), .unset] [(.ref qq)]))
  refine own_st (fun u_ k_ => XS.astoreN X257.here hx rfl (hb hby own_d_prog_21_16_11) rfl rfl (l' := #[.val (.ref pp), .val (.ref qq), .val (.ref qq)]) rfl k_) ?_
  show own_Go p e below _ (T257.setTop (mkF m 12 #[.val (.ref pp), .val (.ref qq), .val (.ref qq)] []))
  refine own_st (fun u_ k_ => XS.aloadN X257.here hx rfl (hb hby own_d_prog_21_16_12) rfl rfl k_) ?_
  show own_Go p e below _ (T257.setTop (mkF m 13 #[.val (.ref pp), .val (.ref qq), .val (.ref qq)] [(.ref pp)]))
  refine own_st (fun u_ k_ => XS.aloadN X257.here hx rfl (hb hby own_d_prog_21_16_13) rfl rfl k_) ?_
  show own_Go p e below _ (T257.setTop (mkF m 14 #[.val (.ref pp), .val (.ref qq), .val (.ref qq)] [(.ref qq), (.ref pp)]))
  obtain ⟨T258, v258, L258, X258, hQ258, st258⟩ := own_callS X257 hx hZ (y := (⟨"com/example/tasdik/tasdik/core/cbor/CborValue", "compare", "(Lcom/example/tasdik/tasdik/core/cbor/CborValue;Lcom/example/tasdik/tasdik/core/cbor/CborValue;)I"⟩ : MethodName)) hown (hw _ (List.mem_of_getElem? (i := 75) rfl)) (hw _ (List.mem_of_getElem? (i := 76) rfl)) (hw _ (List.mem_of_getElem? (i := 7) rfl)) (hw _ (List.mem_of_getElem? (i := 77) rfl)) own_lm_134 (rmV1_2 l Z a0 hw [] w0 wl wp mr hS pp qq a b ka kb v0 v1 h0 n0 O0 Ep Eq T1 T2 B1 B2 V U ne) e257 own_pd_255 (argsL := [(.ref pp), (.ref qq)]) (rest := []) rfl rfl (g := (mkF m 14 #[.val (.ref pp), .val (.ref qq), .val (.ref qq)] [(.ref qq), (.ref pp)])) rfl (by rw [hml]; rfl) rfl (hb hby own_d_prog_21_16_14) (W := 0) rfl (by decide) (by decide) (by decide) (by decide)
  obtain ⟨rfl, M258, e258⟩ := hQ258
  have N258 := Fr.app N0 M258
  refine own_st (fun u_ k_ => st258 u_ k_) ?_
  show own_Go p e below _ (T258.setTop (mkF m 17 #[.val (.ref pp), .val (.ref qq), .val (.ref qq)] [(.int (-1 : Int32))]))
  refine own_st (fun u_ k_ => XS.ifYes X258.here hx rfl (pc0 := 17) (pc' := 24) rfl (hb hby own_d_prog_21_16_17) rfl (XT.i0_ne_t (by decide)) (by decide) (by decide) k_) ?_
  show own_Go p e below _ (T258.setTop (mkF m 24 #[.val (.ref pp), .val (.ref qq), .val (.ref qq)] []))
  refine own_st (fun u_ k_ => XS.iconst X258.here hx rfl (hb hby own_d_prog_21_16_24) k_) ?_
  show own_Go p e below _ (T258.setTop (mkF m 25 #[.val (.ref pp), .val (.ref qq), .val (.ref qq)] [(.int (0 : Int32))]))
  exact own_retX X258 hx hlk hret rfl (Or.inl ⟨rfl, by simp, _, rfl⟩) (hb hby own_d_prog_21_16_25) (by decide) (by decide) (show QrmE1_2 Z w0 wl wp mr pp qq a b ka kb v0 v1 h0 n0 (some (.int (0 : Int32))) T258.heap _ from (by rw [e258]; exact ⟨rfl, N258, rfl⟩))
theorem own_ef_rmMin2_3 (m : MethodId)   : entryFrame m #[(.int (2 : Int32)), (.int (3 : Int32))] 2 = mkF m 0 #[.val (.int (2 : Int32)), .val (.int (3 : Int32))] [] := by first | (simp [entryFrame, mkF, argsToLocals, Value.category, maxLocals]; done) | rfl
def QrmMin2_3 (Z : State) (w0 : Addr) (wl : Addr) (wp : Addr) (mr : Addr)  (h0 : Heap) (n0 : Nat) (v : Option Value) (h : Heap) (L : List Loc) : Prop := v = some (.int (2 : Int32)) ∧ Fr n0 L ∧ h = h0
set_option maxRecDepth 65536 in
set_option maxHeartbeats 40000000 in
theorem rmMin2_3 (l : Launch) (Z : State) (a0 : Array Value) (hw : ∀ d ∈ tables_1, d.before a0 Z = true) (ws : List Jvm.Cond) (w0 : Addr) (wl : Addr) (wp : Addr) (mr : Addr) (hS : own_S Z w0 wl wp mr)  (h0 : Heap) (n0 : Nat) (O0 : Old Z n0 h0)  :
    own_Met l (⟨"java/lang/Math", "min", "(II)I"⟩ : MethodName) jdk_29_method_69_code 2 (some .int) ws ({ frames := 0, cells := 0, slots := 0, locals := 0 } : Room) Z h0 #[(.int (2 : Int32)), (.int (3 : Int32))] (QrmMin2_3 Z w0 wl wp mr  h0 n0) := by
  refine own_body own_pf_179 ?_
  intro p e s m below meth c s₁ hx hby hml hown hnm hret hlk hZ e0 X0
  have N0 := Fr.nil n0
  refine own_st (fun u_ k_ => castTop (own_ef_rmMin2_3 m ) k_) ?_
  show own_Go p e below _ (s₁.setTop (mkF m 0 #[.val (.int (2 : Int32)), .val (.int (3 : Int32))] []))
  refine own_st (fun u_ k_ => XS.iloadN X0.here hx rfl (hb hby own_d_jdk_29_69_0) rfl k_) ?_
  show own_Go p e below _ (s₁.setTop (mkF m 1 #[.val (.int (2 : Int32)), .val (.int (3 : Int32))] [(.int (2 : Int32))]))
  refine own_st (fun u_ k_ => XS.iloadN X0.here hx rfl (hb hby own_d_jdk_29_69_1) rfl k_) ?_
  show own_Go p e below _ (s₁.setTop (mkF m 2 #[.val (.int (2 : Int32)), .val (.int (3 : Int32))] [(.int (3 : Int32)), (.int (2 : Int32))]))
  refine own_st (fun u_ k_ => XS.icmpNo X0.here hx rfl (hb hby own_d_jdk_29_69_2) rfl (XT.ii_gt_f (by decide)) k_) ?_
  show own_Go p e below _ (s₁.setTop (mkF m 5 #[.val (.int (2 : Int32)), .val (.int (3 : Int32))] []))
  refine own_st (fun u_ k_ => XS.iloadN X0.here hx rfl (hb hby own_d_jdk_29_69_5) rfl k_) ?_
  show own_Go p e below _ (s₁.setTop (mkF m 6 #[.val (.int (2 : Int32)), .val (.int (3 : Int32))] [(.int (2 : Int32))]))
  refine own_st (fun u_ k_ => XS.goto X0.here hx rfl (pc0 := 6) (pc' := 10) rfl (hb hby own_d_jdk_29_69_6) (by decide) (by decide) k_) ?_
  show own_Go p e below _ (s₁.setTop (mkF m 10 #[.val (.int (2 : Int32)), .val (.int (3 : Int32))] [(.int (2 : Int32))]))
  exact own_retX X0 hx hlk hret rfl (Or.inl ⟨rfl, by simp, _, rfl⟩) (hb hby own_d_jdk_29_69_10) (by decide) (by decide) (show QrmMin2_3 Z w0 wl wp mr  h0 n0 (some (.int (2 : Int32))) s₁.heap _ from (by rw [e0]; exact ⟨rfl, N0, rfl⟩))
theorem own_ef_rmMis2_3 (m : MethodId) (a : Addr) (b : Addr)  : entryFrame m #[(.ref a), (.ref b), (.int (2 : Int32))] 4 = mkF m 0 #[.val (.ref a), .val (.ref b), .val (.int (2 : Int32)), .unset] [] := by first | (simp [entryFrame, mkF, argsToLocals, Value.category, maxLocals]; done) | rfl
def QrmMis2_3 (Z : State) (w0 : Addr) (wl : Addr) (wp : Addr) (mr : Addr) (a : Addr) (b : Addr) (ka : ClassId) (kb : ClassId) (v0 : Int32) (v1 : Int32) (v2 : Int32) (h0 : Heap) (n0 : Nat) (v : Option Value) (h : Heap) (L : List Loc) : Prop := v = some (.int (-1 : Int32)) ∧ Fr n0 L ∧ h = h0
set_option maxRecDepth 65536 in
set_option maxHeartbeats 40000000 in
theorem rmMis2_3 (l : Launch) (Z : State) (a0 : Array Value) (hw : ∀ d ∈ tables_1, d.before a0 Z = true) (ws : List Jvm.Cond) (w0 : Addr) (wl : Addr) (wp : Addr) (mr : Addr) (hS : own_S Z w0 wl wp mr) (a : Addr) (b : Addr) (ka : ClassId) (kb : ClassId) (v0 : Int32) (v1 : Int32) (v2 : Int32) (h0 : Heap) (n0 : Nat) (O0 : Old Z n0 h0) (V : Arv Z h0 a ka .byte (2 : Int32) [(.int v0), (.int v1)] (.int (0 : Int32))) (U : Arv Z h0 b kb .byte (3 : Int32) [(.int v0), (.int v1), (.int v2)] (.int (0 : Int32))) :
    own_Met l (⟨"jdk/internal/util/ArraysSupport", "mismatch", "([B[BI)I"⟩ : MethodName) jdk_48_method_13_code 4 (some .int) ws ({ frames := 0, cells := 0, slots := 0, locals := 0 } : Room) Z h0 #[(.ref a), (.ref b), (.int (2 : Int32))] (QrmMis2_3 Z w0 wl wp mr a b ka kb v0 v1 v2 h0 n0) := by
  refine own_body (plainFor_of_name own_pn_190) ?_
  intro p e s m below meth c s₁ hx hby hml hown hnm hret hlk hZ e0 X0
  have N0 := Fr.nil n0
  refine own_st (fun u_ k_ => castTop (own_ef_rmMis2_3 m a b) k_) ?_
  show own_Go p e below _ (s₁.setTop (mkF m 0 #[.val (.ref a), .val (.ref b), .val (.int (2 : Int32)), .unset] []))
  refine own_st (fun u_ k_ => XS.iconst X0.here hx rfl (hb hby own_d_jdk_48_13_0) k_) ?_
  show own_Go p e below _ (s₁.setTop (mkF m 1 #[.val (.ref a), .val (.ref b), .val (.int (2 : Int32)), .unset] [(.int (0 : Int32))]))
  refine own_st (fun u_ k_ => XS.istoreN X0.here hx rfl (hb hby own_d_jdk_48_13_1) rfl (l' := #[.val (.ref a), .val (.ref b), .val (.int (2 : Int32)), .val (.int (0 : Int32))]) rfl k_) ?_
  show own_Go p e below _ (s₁.setTop (mkF m 2 #[.val (.ref a), .val (.ref b), .val (.int (2 : Int32)), .val (.int (0 : Int32))] []))
  refine own_st (fun u_ k_ => XS.iloadN X0.here hx rfl (hb hby own_d_jdk_48_13_2) rfl k_) ?_
  show own_Go p e below _ (s₁.setTop (mkF m 3 #[.val (.ref a), .val (.ref b), .val (.int (2 : Int32)), .val (.int (0 : Int32))] [(.int (2 : Int32))]))
  refine own_st (fun u_ k_ => XS.bipush X0.here hx rfl (hb hby own_d_jdk_48_13_3) k_) ?_
  show own_Go p e below _ (s₁.setTop (mkF m 5 #[.val (.ref a), .val (.ref b), .val (.int (2 : Int32)), .val (.int (0 : Int32))] [(.int (7 : Int32)), (.int (2 : Int32))]))
  refine own_st (fun u_ k_ => XS.icmpYes X0.here hx rfl (pc0 := 5) (pc' := 49) rfl (hb hby own_d_jdk_48_13_5) rfl (XT.ii_le_t (by decide)) (by decide) (by decide) k_) ?_
  show own_Go p e below _ (s₁.setTop (mkF m 49 #[.val (.ref a), .val (.ref b), .val (.int (2 : Int32)), .val (.int (0 : Int32))] []))
  refine own_st (fun u_ k_ => XS.iloadN X0.here hx rfl (hb hby own_d_jdk_48_13_49) rfl k_) ?_
  show own_Go p e below _ (s₁.setTop (mkF m 50 #[.val (.ref a), .val (.ref b), .val (.int (2 : Int32)), .val (.int (0 : Int32))] [(.int (0 : Int32))]))
  refine own_st (fun u_ k_ => XS.iloadN X0.here hx rfl (hb hby own_d_jdk_48_13_50) rfl k_) ?_
  show own_Go p e below _ (s₁.setTop (mkF m 51 #[.val (.ref a), .val (.ref b), .val (.int (2 : Int32)), .val (.int (0 : Int32))] [(.int (2 : Int32)), (.int (0 : Int32))]))
  refine own_st (fun u_ k_ => XS.icmpNo X0.here hx rfl (hb hby own_d_jdk_48_13_51) rfl (XT.ii_ge_f (by decide)) k_) ?_
  show own_Go p e below _ (s₁.setTop (mkF m 54 #[.val (.ref a), .val (.ref b), .val (.int (2 : Int32)), .val (.int (0 : Int32))] []))
  refine own_st (fun u_ k_ => XS.aloadN X0.here hx rfl (hb hby own_d_jdk_48_13_54) rfl rfl k_) ?_
  show own_Go p e below _ (s₁.setTop (mkF m 55 #[.val (.ref a), .val (.ref b), .val (.int (2 : Int32)), .val (.int (0 : Int32))] [(.ref a)]))
  refine own_st (fun u_ k_ => XS.iloadN X0.here hx rfl (hb hby own_d_jdk_48_13_55) rfl k_) ?_
  show own_Go p e below _ (s₁.setTop (mkF m 56 #[.val (.ref a), .val (.ref b), .val (.int (2 : Int32)), .val (.int (0 : Int32))] [(.int (0 : Int32)), (.ref a)]))
  obtain ⟨cl259, Ar259, q259, S259, N259, H259, G259⟩ := id V
  have hi259 : ¬ ((0 : Int32) < 0 ∨ cl259.slots.size ≤ ((0 : Int32)).toNatClampNeg) := inb_of S259 ⟨by decide, by decide⟩
  have ha259 : cl259.slots[((0 : Int32)).toNatClampNeg]? = some (.int v0) := H259.at hi259 rfl
  refine own_st (X0.baloadBytes hx (j := (0 : Int32)) (v := (.int v0)) (by rw [e0]; exact Ar259.1) (State.isArrayOf_alike hZ.alike Ar259.2.1) Ar259.2.2 hi259 ha259 (g := (mkF m 56 #[.val (.ref a), .val (.ref b), .val (.int (2 : Int32)), .val (.int (0 : Int32))] [(.int (0 : Int32)), (.ref a)])) rfl rfl (hb hby own_d_jdk_48_13_56)) ?_
  show own_Go p e below _ (s₁.setTop (mkF m 57 #[.val (.ref a), .val (.ref b), .val (.int (2 : Int32)), .val (.int (0 : Int32))] [(.int v0)]))
  refine own_st (fun u_ k_ => XS.aloadN X0.here hx rfl (hb hby own_d_jdk_48_13_57) rfl rfl k_) ?_
  show own_Go p e below _ (s₁.setTop (mkF m 58 #[.val (.ref a), .val (.ref b), .val (.int (2 : Int32)), .val (.int (0 : Int32))] [(.ref b), (.int v0)]))
  refine own_st (fun u_ k_ => XS.iloadN X0.here hx rfl (hb hby own_d_jdk_48_13_58) rfl k_) ?_
  show own_Go p e below _ (s₁.setTop (mkF m 59 #[.val (.ref a), .val (.ref b), .val (.int (2 : Int32)), .val (.int (0 : Int32))] [(.int (0 : Int32)), (.ref b), (.int v0)]))
  obtain ⟨cl260, Ar260, q260, S260, N260, H260, G260⟩ := id U
  have hi260 : ¬ ((0 : Int32) < 0 ∨ cl260.slots.size ≤ ((0 : Int32)).toNatClampNeg) := inb_of S260 ⟨by decide, by decide⟩
  have ha260 : cl260.slots[((0 : Int32)).toNatClampNeg]? = some (.int v0) := H260.at hi260 rfl
  refine own_st (X0.baloadBytes hx (j := (0 : Int32)) (v := (.int v0)) (by rw [e0]; exact Ar260.1) (State.isArrayOf_alike hZ.alike Ar260.2.1) Ar260.2.2 hi260 ha260 (g := (mkF m 59 #[.val (.ref a), .val (.ref b), .val (.int (2 : Int32)), .val (.int (0 : Int32))] [(.int (0 : Int32)), (.ref b), (.int v0)])) rfl rfl (hb hby own_d_jdk_48_13_59)) ?_
  show own_Go p e below _ (s₁.setTop (mkF m 60 #[.val (.ref a), .val (.ref b), .val (.int (2 : Int32)), .val (.int (0 : Int32))] [(.int v0), (.int v0)]))
  refine own_st (fun u_ k_ => XS.icmpYes X0.here hx rfl (pc0 := 60) (pc' := 65) rfl (hb hby own_d_jdk_48_13_60) rfl (XT.ii_eq_t rfl) (by decide) (by decide) k_) ?_
  show own_Go p e below _ (s₁.setTop (mkF m 65 #[.val (.ref a), .val (.ref b), .val (.int (2 : Int32)), .val (.int (0 : Int32))] []))
  refine own_st (fun u_ k_ => XS.iinc X0.here hx rfl (hb hby own_d_jdk_48_13_65) rfl (l' := #[.val (.ref a), .val (.ref b), .val (.int (2 : Int32)), .val (.int (1 : Int32))]) rfl k_) ?_
  show own_Go p e below _ (s₁.setTop (mkF m 68 #[.val (.ref a), .val (.ref b), .val (.int (2 : Int32)), .val (.int (1 : Int32))] []))
  refine own_st (fun u_ k_ => XS.goto X0.here hx rfl (pc0 := 68) (pc' := 49) rfl (hb hby own_d_jdk_48_13_68) (by decide) (by decide) k_) ?_
  show own_Go p e below _ (s₁.setTop (mkF m 49 #[.val (.ref a), .val (.ref b), .val (.int (2 : Int32)), .val (.int (1 : Int32))] []))
  refine own_st (fun u_ k_ => XS.iloadN X0.here hx rfl (hb hby own_d_jdk_48_13_49) rfl k_) ?_
  show own_Go p e below _ (s₁.setTop (mkF m 50 #[.val (.ref a), .val (.ref b), .val (.int (2 : Int32)), .val (.int (1 : Int32))] [(.int (1 : Int32))]))
  refine own_st (fun u_ k_ => XS.iloadN X0.here hx rfl (hb hby own_d_jdk_48_13_50) rfl k_) ?_
  show own_Go p e below _ (s₁.setTop (mkF m 51 #[.val (.ref a), .val (.ref b), .val (.int (2 : Int32)), .val (.int (1 : Int32))] [(.int (2 : Int32)), (.int (1 : Int32))]))
  refine own_st (fun u_ k_ => XS.icmpNo X0.here hx rfl (hb hby own_d_jdk_48_13_51) rfl (XT.ii_ge_f (by decide)) k_) ?_
  show own_Go p e below _ (s₁.setTop (mkF m 54 #[.val (.ref a), .val (.ref b), .val (.int (2 : Int32)), .val (.int (1 : Int32))] []))
  refine own_st (fun u_ k_ => XS.aloadN X0.here hx rfl (hb hby own_d_jdk_48_13_54) rfl rfl k_) ?_
  show own_Go p e below _ (s₁.setTop (mkF m 55 #[.val (.ref a), .val (.ref b), .val (.int (2 : Int32)), .val (.int (1 : Int32))] [(.ref a)]))
  refine own_st (fun u_ k_ => XS.iloadN X0.here hx rfl (hb hby own_d_jdk_48_13_55) rfl k_) ?_
  show own_Go p e below _ (s₁.setTop (mkF m 56 #[.val (.ref a), .val (.ref b), .val (.int (2 : Int32)), .val (.int (1 : Int32))] [(.int (1 : Int32)), (.ref a)]))
  obtain ⟨cl261, Ar261, q261, S261, N261, H261, G261⟩ := id V
  have hi261 : ¬ ((1 : Int32) < 0 ∨ cl261.slots.size ≤ ((1 : Int32)).toNatClampNeg) := inb_of S261 ⟨by decide, by decide⟩
  have ha261 : cl261.slots[((1 : Int32)).toNatClampNeg]? = some (.int v1) := H261.at hi261 rfl
  refine own_st (X0.baloadBytes hx (j := (1 : Int32)) (v := (.int v1)) (by rw [e0]; exact Ar261.1) (State.isArrayOf_alike hZ.alike Ar261.2.1) Ar261.2.2 hi261 ha261 (g := (mkF m 56 #[.val (.ref a), .val (.ref b), .val (.int (2 : Int32)), .val (.int (1 : Int32))] [(.int (1 : Int32)), (.ref a)])) rfl rfl (hb hby own_d_jdk_48_13_56)) ?_
  show own_Go p e below _ (s₁.setTop (mkF m 57 #[.val (.ref a), .val (.ref b), .val (.int (2 : Int32)), .val (.int (1 : Int32))] [(.int v1)]))
  refine own_st (fun u_ k_ => XS.aloadN X0.here hx rfl (hb hby own_d_jdk_48_13_57) rfl rfl k_) ?_
  show own_Go p e below _ (s₁.setTop (mkF m 58 #[.val (.ref a), .val (.ref b), .val (.int (2 : Int32)), .val (.int (1 : Int32))] [(.ref b), (.int v1)]))
  refine own_st (fun u_ k_ => XS.iloadN X0.here hx rfl (hb hby own_d_jdk_48_13_58) rfl k_) ?_
  show own_Go p e below _ (s₁.setTop (mkF m 59 #[.val (.ref a), .val (.ref b), .val (.int (2 : Int32)), .val (.int (1 : Int32))] [(.int (1 : Int32)), (.ref b), (.int v1)]))
  obtain ⟨cl262, Ar262, q262, S262, N262, H262, G262⟩ := id U
  have hi262 : ¬ ((1 : Int32) < 0 ∨ cl262.slots.size ≤ ((1 : Int32)).toNatClampNeg) := inb_of S262 ⟨by decide, by decide⟩
  have ha262 : cl262.slots[((1 : Int32)).toNatClampNeg]? = some (.int v1) := H262.at hi262 rfl
  refine own_st (X0.baloadBytes hx (j := (1 : Int32)) (v := (.int v1)) (by rw [e0]; exact Ar262.1) (State.isArrayOf_alike hZ.alike Ar262.2.1) Ar262.2.2 hi262 ha262 (g := (mkF m 59 #[.val (.ref a), .val (.ref b), .val (.int (2 : Int32)), .val (.int (1 : Int32))] [(.int (1 : Int32)), (.ref b), (.int v1)])) rfl rfl (hb hby own_d_jdk_48_13_59)) ?_
  show own_Go p e below _ (s₁.setTop (mkF m 60 #[.val (.ref a), .val (.ref b), .val (.int (2 : Int32)), .val (.int (1 : Int32))] [(.int v1), (.int v1)]))
  refine own_st (fun u_ k_ => XS.icmpYes X0.here hx rfl (pc0 := 60) (pc' := 65) rfl (hb hby own_d_jdk_48_13_60) rfl (XT.ii_eq_t rfl) (by decide) (by decide) k_) ?_
  show own_Go p e below _ (s₁.setTop (mkF m 65 #[.val (.ref a), .val (.ref b), .val (.int (2 : Int32)), .val (.int (1 : Int32))] []))
  refine own_st (fun u_ k_ => XS.iinc X0.here hx rfl (hb hby own_d_jdk_48_13_65) rfl (l' := #[.val (.ref a), .val (.ref b), .val (.int (2 : Int32)), .val (.int (2 : Int32))]) rfl k_) ?_
  show own_Go p e below _ (s₁.setTop (mkF m 68 #[.val (.ref a), .val (.ref b), .val (.int (2 : Int32)), .val (.int (2 : Int32))] []))
  refine own_st (fun u_ k_ => XS.goto X0.here hx rfl (pc0 := 68) (pc' := 49) rfl (hb hby own_d_jdk_48_13_68) (by decide) (by decide) k_) ?_
  show own_Go p e below _ (s₁.setTop (mkF m 49 #[.val (.ref a), .val (.ref b), .val (.int (2 : Int32)), .val (.int (2 : Int32))] []))
  refine own_st (fun u_ k_ => XS.iloadN X0.here hx rfl (hb hby own_d_jdk_48_13_49) rfl k_) ?_
  show own_Go p e below _ (s₁.setTop (mkF m 50 #[.val (.ref a), .val (.ref b), .val (.int (2 : Int32)), .val (.int (2 : Int32))] [(.int (2 : Int32))]))
  refine own_st (fun u_ k_ => XS.iloadN X0.here hx rfl (hb hby own_d_jdk_48_13_50) rfl k_) ?_
  show own_Go p e below _ (s₁.setTop (mkF m 51 #[.val (.ref a), .val (.ref b), .val (.int (2 : Int32)), .val (.int (2 : Int32))] [(.int (2 : Int32)), (.int (2 : Int32))]))
  refine own_st (fun u_ k_ => XS.icmpYes X0.here hx rfl (pc0 := 51) (pc' := 71) rfl (hb hby own_d_jdk_48_13_51) rfl (XT.ii_ge_t (by decide)) (by decide) (by decide) k_) ?_
  show own_Go p e below _ (s₁.setTop (mkF m 71 #[.val (.ref a), .val (.ref b), .val (.int (2 : Int32)), .val (.int (2 : Int32))] []))
  refine own_st (fun u_ k_ => XS.iconst X0.here hx rfl (hb hby own_d_jdk_48_13_71) k_) ?_
  show own_Go p e below _ (s₁.setTop (mkF m 72 #[.val (.ref a), .val (.ref b), .val (.int (2 : Int32)), .val (.int (2 : Int32))] [(.int (-1 : Int32))]))
  exact own_retX X0 hx hlk hret rfl (Or.inl ⟨rfl, by simp, _, rfl⟩) (hb hby own_d_jdk_48_13_72) (by decide) (by decide) (show QrmMis2_3 Z w0 wl wp mr a b ka kb v0 v1 v2 h0 n0 (some (.int (-1 : Int32))) s₁.heap _ from (by rw [e0]; exact ⟨rfl, N0, rfl⟩))
theorem own_ef_rmU2_3 (m : MethodId) (a : Addr) (b : Addr)  : entryFrame m #[(.ref a), (.ref b)] 3 = mkF m 0 #[.val (.ref a), .val (.ref b), .unset] [] := by first | (simp [entryFrame, mkF, argsToLocals, Value.category, maxLocals]; done) | rfl
def QrmU2_3 (Z : State) (w0 : Addr) (wl : Addr) (wp : Addr) (mr : Addr) (a : Addr) (b : Addr) (ka : ClassId) (kb : ClassId) (v0 : Int32) (v1 : Int32) (v2 : Int32) (h0 : Heap) (n0 : Nat) (v : Option Value) (h : Heap) (L : List Loc) : Prop := v = some (.int (-1 : Int32)) ∧ Fr n0 L ∧ h = h0
set_option maxRecDepth 65536 in
set_option maxHeartbeats 40000000 in
theorem rmU2_3 (l : Launch) (Z : State) (a0 : Array Value) (hw : ∀ d ∈ tables_1, d.before a0 Z = true) (ws : List Jvm.Cond) (w0 : Addr) (wl : Addr) (wp : Addr) (mr : Addr) (hS : own_S Z w0 wl wp mr) (a : Addr) (b : Addr) (ka : ClassId) (kb : ClassId) (v0 : Int32) (v1 : Int32) (v2 : Int32) (h0 : Heap) (n0 : Nat) (O0 : Old Z n0 h0) (V : Arv Z h0 a ka .byte (2 : Int32) [(.int v0), (.int v1)] (.int (0 : Int32))) (U : Arv Z h0 b kb .byte (3 : Int32) [(.int v0), (.int v1), (.int v2)] (.int (0 : Int32))) (ne : a ≠ b) :
    own_Met l (⟨"java/util/Arrays", "compareUnsigned", "([B[B)I"⟩ : MethodName) jdk_65_method_201_code 3 (some .int) ws ({ frames := 1, cells := 0, slots := 0, locals := 15 } : Room) Z h0 #[(.ref a), (.ref b)] (QrmU2_3 Z w0 wl wp mr a b ka kb v0 v1 v2 h0 n0) := by
  refine own_body (plainFor_of_name own_pn_219) ?_
  intro p e s m below meth c s₁ hx hby hml hown hnm hret hlk hZ e0 X0
  have N0 := Fr.nil n0
  refine own_st (fun u_ k_ => castTop (own_ef_rmU2_3 m a b) k_) ?_
  show own_Go p e below _ (s₁.setTop (mkF m 0 #[.val (.ref a), .val (.ref b), .unset] []))
  refine own_st (fun u_ k_ => XS.aloadN X0.here hx rfl (hb hby own_d_jdk_65_201_0) rfl rfl k_) ?_
  show own_Go p e below _ (s₁.setTop (mkF m 1 #[.val (.ref a), .val (.ref b), .unset] [(.ref a)]))
  refine own_st (fun u_ k_ => XS.aloadN X0.here hx rfl (hb hby own_d_jdk_65_201_1) rfl rfl k_) ?_
  show own_Go p e below _ (s₁.setTop (mkF m 2 #[.val (.ref a), .val (.ref b), .unset] [(.ref b), (.ref a)]))
  refine own_st (fun u_ k_ => XT.acmpYes X0.here hx rfl (pc0 := 2) (pc' := 7) rfl (hb hby own_d_jdk_65_201_2) rfl rfl rfl (XT.aa_ne_t (own_rne ne)) (by decide) (by decide) k_) ?_
  show own_Go p e below _ (s₁.setTop (mkF m 7 #[.val (.ref a), .val (.ref b), .unset] []))
  refine own_st (fun u_ k_ => XS.aloadN X0.here hx rfl (hb hby own_d_jdk_65_201_7) rfl rfl k_) ?_
  show own_Go p e below _ (s₁.setTop (mkF m 8 #[.val (.ref a), .val (.ref b), .unset] [(.ref a)]))
  refine own_st (fun u_ k_ => XS.ifnullNo X0.here hx rfl (hb hby own_d_jdk_65_201_8) rfl k_) ?_
  show own_Go p e below _ (s₁.setTop (mkF m 11 #[.val (.ref a), .val (.ref b), .unset] []))
  refine own_st (fun u_ k_ => XS.aloadN X0.here hx rfl (hb hby own_d_jdk_65_201_11) rfl rfl k_) ?_
  show own_Go p e below _ (s₁.setTop (mkF m 12 #[.val (.ref a), .val (.ref b), .unset] [(.ref b)]))
  refine own_st (fun u_ k_ => XS.ifnonnullYes X0.here hx rfl (pc0 := 12) (pc' := 25) rfl (hb hby own_d_jdk_65_201_12) rfl (by decide) (by decide) k_) ?_
  show own_Go p e below _ (s₁.setTop (mkF m 25 #[.val (.ref a), .val (.ref b), .unset] []))
  refine own_st (fun u_ k_ => XS.aloadN X0.here hx rfl (hb hby own_d_jdk_65_201_25) rfl rfl k_) ?_
  show own_Go p e below _ (s₁.setTop (mkF m 26 #[.val (.ref a), .val (.ref b), .unset] [(.ref a)]))
  refine own_st (fun u_ k_ => XS.aloadN X0.here hx rfl (hb hby own_d_jdk_65_201_26) rfl rfl k_) ?_
  show own_Go p e below _ (s₁.setTop (mkF m 27 #[.val (.ref a), .val (.ref b), .unset] [(.ref b), (.ref a)]))
  refine own_st (fun u_ k_ => XS.aloadN X0.here hx rfl (hb hby own_d_jdk_65_201_27) rfl rfl k_) ?_
  show own_Go p e below _ (s₁.setTop (mkF m 28 #[.val (.ref a), .val (.ref b), .unset] [(.ref a), (.ref b), (.ref a)]))
  obtain ⟨cl263, Ar263, -, S263, N263, -, -⟩ := id V
  refine own_st (X0.arraylength hx (by rw [e0]; exact Ar263.1) (State.isArrayOf_alike hZ.alike Ar263.2.1) (g := (mkF m 28 #[.val (.ref a), .val (.ref b), .unset] [(.ref a), (.ref b), (.ref a)])) rfl rfl (hb hby own_d_jdk_65_201_28)) ?_
  rw [len_of S263 N263]
  show own_Go p e below _ (s₁.setTop (mkF m 29 #[.val (.ref a), .val (.ref b), .unset] [(.int (2 : Int32)), (.ref b), (.ref a)]))
  refine own_st (fun u_ k_ => XS.aloadN X0.here hx rfl (hb hby own_d_jdk_65_201_29) rfl rfl k_) ?_
  show own_Go p e below _ (s₁.setTop (mkF m 30 #[.val (.ref a), .val (.ref b), .unset] [(.ref b), (.int (2 : Int32)), (.ref b), (.ref a)]))
  obtain ⟨cl264, Ar264, -, S264, N264, -, -⟩ := id U
  refine own_st (X0.arraylength hx (by rw [e0]; exact Ar264.1) (State.isArrayOf_alike hZ.alike Ar264.2.1) (g := (mkF m 30 #[.val (.ref a), .val (.ref b), .unset] [(.ref b), (.int (2 : Int32)), (.ref b), (.ref a)])) rfl rfl (hb hby own_d_jdk_65_201_30)) ?_
  rw [len_of S264 N264]
  show own_Go p e below _ (s₁.setTop (mkF m 31 #[.val (.ref a), .val (.ref b), .unset] [(.int (3 : Int32)), (.int (2 : Int32)), (.ref b), (.ref a)]))
  obtain ⟨T265, v265, L265, X265, hQ265, st265⟩ := own_callS X0 hx hZ (y := (⟨"java/lang/Math", "min", "(II)I"⟩ : MethodName)) hown (hw _ (List.mem_of_getElem? (i := 103) rfl)) (hw _ (List.mem_of_getElem? (i := 104) rfl)) (hw _ (List.mem_of_getElem? (i := 105) rfl)) (hw _ (List.mem_of_getElem? (i := 106) rfl)) own_lm_205 (rmMin2_3 l Z a0 hw [] w0 wl wp mr hS  h0 n0 O0 ) e0 own_pd_206 (argsL := [(.int (2 : Int32)), (.int (3 : Int32))]) (rest := [(.ref b), (.ref a)]) rfl rfl (g := (mkF m 31 #[.val (.ref a), .val (.ref b), .unset] [(.int (3 : Int32)), (.int (2 : Int32)), (.ref b), (.ref a)])) rfl (by rw [hml]; rfl) rfl (hb hby own_d_jdk_65_201_31) (W := 2) rfl (by decide) (by decide) (by decide) (by decide)
  obtain ⟨rfl, M265, e265⟩ := hQ265
  have N265 := Fr.app N0 M265
  refine own_st (fun u_ k_ => st265 u_ k_) ?_
  show own_Go p e below _ (T265.setTop (mkF m 34 #[.val (.ref a), .val (.ref b), .unset] [(.int (2 : Int32)), (.ref b), (.ref a)]))
  obtain ⟨T266, v266, L266, X266, hQ266, st266⟩ := own_callS X265 hx hZ (y := (⟨"jdk/internal/util/ArraysSupport", "mismatch", "([B[BI)I"⟩ : MethodName)) hown (hw _ (List.mem_of_getElem? (i := 107) rfl)) (hw _ (List.mem_of_getElem? (i := 108) rfl)) (hw _ (List.mem_of_getElem? (i := 109) rfl)) (hw _ (List.mem_of_getElem? (i := 110) rfl)) own_lm_208 (rmMis2_3 l Z a0 hw [] w0 wl wp mr hS a b ka kb v0 v1 v2 h0 n0 O0 V U) e265 own_pd_209 (argsL := [(.ref a), (.ref b), (.int (2 : Int32))]) (rest := []) rfl rfl (g := (mkF m 34 #[.val (.ref a), .val (.ref b), .unset] [(.int (2 : Int32)), (.ref b), (.ref a)])) rfl (by rw [hml]; rfl) rfl (hb hby own_d_jdk_65_201_34) (W := 0) rfl (by decide) (by decide) (by decide) (by decide)
  obtain ⟨rfl, M266, e266⟩ := hQ266
  have N266 := Fr.app N265 M266
  refine own_st (fun u_ k_ => st266 u_ k_) ?_
  show own_Go p e below _ (T266.setTop (mkF m 37 #[.val (.ref a), .val (.ref b), .unset] [(.int (-1 : Int32))]))
  refine own_st (fun u_ k_ => XS.istoreN X266.here hx rfl (hb hby own_d_jdk_65_201_37) rfl (l' := #[.val (.ref a), .val (.ref b), .val (.int (-1 : Int32))]) rfl k_) ?_
  show own_Go p e below _ (T266.setTop (mkF m 38 #[.val (.ref a), .val (.ref b), .val (.int (-1 : Int32))] []))
  refine own_st (fun u_ k_ => XS.iloadN X266.here hx rfl (hb hby own_d_jdk_65_201_38) rfl k_) ?_
  show own_Go p e below _ (T266.setTop (mkF m 39 #[.val (.ref a), .val (.ref b), .val (.int (-1 : Int32))] [(.int (-1 : Int32))]))
  refine own_st (fun u_ k_ => XS.ifYes X266.here hx rfl (pc0 := 39) (pc' := 52) rfl (hb hby own_d_jdk_65_201_39) rfl (XT.i0_lt_t (by decide)) (by decide) (by decide) k_) ?_
  show own_Go p e below _ (T266.setTop (mkF m 52 #[.val (.ref a), .val (.ref b), .val (.int (-1 : Int32))] []))
  refine own_st (fun u_ k_ => XS.aloadN X266.here hx rfl (hb hby own_d_jdk_65_201_52) rfl rfl k_) ?_
  show own_Go p e below _ (T266.setTop (mkF m 53 #[.val (.ref a), .val (.ref b), .val (.int (-1 : Int32))] [(.ref a)]))
  obtain ⟨cl267, Ar267, -, S267, N267, -, -⟩ := id V
  refine own_st (X266.arraylength hx (by rw [e266]; exact Ar267.1) (State.isArrayOf_alike hZ.alike Ar267.2.1) (g := (mkF m 53 #[.val (.ref a), .val (.ref b), .val (.int (-1 : Int32))] [(.ref a)])) rfl rfl (hb hby own_d_jdk_65_201_53)) ?_
  rw [len_of S267 N267]
  show own_Go p e below _ (T266.setTop (mkF m 54 #[.val (.ref a), .val (.ref b), .val (.int (-1 : Int32))] [(.int (2 : Int32))]))
  refine own_st (fun u_ k_ => XS.aloadN X266.here hx rfl (hb hby own_d_jdk_65_201_54) rfl rfl k_) ?_
  show own_Go p e below _ (T266.setTop (mkF m 55 #[.val (.ref a), .val (.ref b), .val (.int (-1 : Int32))] [(.ref b), (.int (2 : Int32))]))
  obtain ⟨cl268, Ar268, -, S268, N268, -, -⟩ := id U
  refine own_st (X266.arraylength hx (by rw [e266]; exact Ar268.1) (State.isArrayOf_alike hZ.alike Ar268.2.1) (g := (mkF m 55 #[.val (.ref a), .val (.ref b), .val (.int (-1 : Int32))] [(.ref b), (.int (2 : Int32))])) rfl rfl (hb hby own_d_jdk_65_201_55)) ?_
  rw [len_of S268 N268]
  show own_Go p e below _ (T266.setTop (mkF m 56 #[.val (.ref a), .val (.ref b), .val (.int (-1 : Int32))] [(.int (3 : Int32)), (.int (2 : Int32))]))
  refine own_st (fun u_ k_ => XS.isub X266.here hx rfl (hb hby own_d_jdk_65_201_56) rfl k_) ?_
  show own_Go p e below _ (T266.setTop (mkF m 57 #[.val (.ref a), .val (.ref b), .val (.int (-1 : Int32))] [(.int (-1 : Int32))]))
  exact own_retX X266 hx hlk hret rfl (Or.inl ⟨rfl, by simp, _, rfl⟩) (hb hby own_d_jdk_65_201_57) (by decide) (by decide) (show QrmU2_3 Z w0 wl wp mr a b ka kb v0 v1 v2 h0 n0 (some (.int (-1 : Int32))) T266.heap _ from (by rw [e266]; exact ⟨rfl, N266, rfl⟩))
theorem own_ef_rmV2_3 (m : MethodId) (pp : Addr) (qq : Addr)  : entryFrame m #[(.ref pp), (.ref qq)] 3 = mkF m 0 #[.val (.ref pp), .val (.ref qq), .unset] [] := by first | (simp [entryFrame, mkF, argsToLocals, Value.category, maxLocals]; done) | rfl
def QrmV2_3 (Z : State) (w0 : Addr) (wl : Addr) (wp : Addr) (mr : Addr) (pp : Addr) (qq : Addr) (a : Addr) (b : Addr) (ka : ClassId) (kb : ClassId) (v0 : Int32) (v1 : Int32) (v2 : Int32) (h0 : Heap) (n0 : Nat) (v : Option Value) (h : Heap) (L : List Loc) : Prop := v = some (.int (-1 : Int32)) ∧ Fr n0 L ∧ h = h0
set_option maxRecDepth 65536 in
set_option maxHeartbeats 40000000 in
theorem rmV2_3 (l : Launch) (Z : State) (a0 : Array Value) (hw : ∀ d ∈ tables_1, d.before a0 Z = true) (ws : List Jvm.Cond) (w0 : Addr) (wl : Addr) (wp : Addr) (mr : Addr) (hS : own_S Z w0 wl wp mr) (pp : Addr) (qq : Addr) (a : Addr) (b : Addr) (ka : ClassId) (kb : ClassId) (v0 : Int32) (v1 : Int32) (v2 : Int32) (h0 : Heap) (n0 : Nat) (O0 : Old Z n0 h0) (Ep : Exa Z h0 pp "com/example/tasdik/tasdik/core/cbor/CborValue") (Eq : Exa Z h0 qq "com/example/tasdik/tasdik/core/cbor/CborValue") (T1 : Fld Z h0 pp "com/example/tasdik/tasdik/core/cbor/CborValue" "type" "Lcom/example/tasdik/tasdik/core/cbor/CborValue$Type;" (.ref w0)) (T2 : Fld Z h0 qq "com/example/tasdik/tasdik/core/cbor/CborValue" "type" "Lcom/example/tasdik/tasdik/core/cbor/CborValue$Type;" (.ref w0)) (B1 : Fld Z h0 pp "com/example/tasdik/tasdik/core/cbor/CborValue" "bytes" "[B" (.ref a)) (B2 : Fld Z h0 qq "com/example/tasdik/tasdik/core/cbor/CborValue" "bytes" "[B" (.ref b)) (V : Arv Z h0 a ka .byte (2 : Int32) [(.int v0), (.int v1)] (.int (0 : Int32))) (U : Arv Z h0 b kb .byte (3 : Int32) [(.int v0), (.int v1), (.int v2)] (.int (0 : Int32))) (ne : a ≠ b) :
    own_Met l (⟨"com/example/tasdik/tasdik/core/cbor/CborValue", "compare", "(Lcom/example/tasdik/tasdik/core/cbor/CborValue;Lcom/example/tasdik/tasdik/core/cbor/CborValue;)I"⟩ : MethodName) prog_21_method_18_code 3 (some .int) ws ({ frames := 2, cells := 0, slots := 0, locals := 43 } : Room) Z h0 #[(.ref pp), (.ref qq)] (QrmV2_3 Z w0 wl wp mr pp qq a b ka kb v0 v1 v2 h0 n0) := by
  refine own_body (plainFor_of_name own_pn_119) ?_
  intro p e s m below meth c s₁ hx hby hml hown hnm hret hlk hZ e0 X0
  have N0 := Fr.nil n0
  refine own_st (fun u_ k_ => castTop (own_ef_rmV2_3 m pp qq) k_) ?_
  show own_Go p e below _ (s₁.setTop (mkF m 0 #[.val (.ref pp), .val (.ref qq), .unset] []))
  refine own_st (fun u_ k_ => XS.aloadN X0.here hx rfl (hb hby own_d_prog_21_18_0) rfl rfl k_) ?_
  show own_Go p e below _ (s₁.setTop (mkF m 1 #[.val (.ref pp), .val (.ref qq), .unset] [(.ref pp)]))
  obtain ⟨T269, X269, e269, st269⟩ := getF X0 hx hZ hown (host := "") (Or.inl (hw _ (List.mem_of_getElem? (i := 31) rfl))) Via.refl e0 T1 (g := (mkF m 1 #[.val (.ref pp), .val (.ref qq), .unset] [(.ref pp)])) rfl rfl (hb hby own_d_prog_21_18_1)
  refine own_st (fun u_ k_ => st269 u_ k_) ?_
  show own_Go p e below _ (T269.setTop (mkF m 4 #[.val (.ref pp), .val (.ref qq), .unset] [(.ref w0)]))
  refine own_st (fun u_ k_ => XS.aloadN X269.here hx rfl (hb hby own_d_prog_21_18_4) rfl rfl k_) ?_
  show own_Go p e below _ (T269.setTop (mkF m 5 #[.val (.ref pp), .val (.ref qq), .unset] [(.ref qq), (.ref w0)]))
  obtain ⟨T270, X270, e270, st270⟩ := getF X269 hx hZ hown (host := "") (Or.inl (hw _ (List.mem_of_getElem? (i := 31) rfl))) Via.refl e269 T2 (g := (mkF m 5 #[.val (.ref pp), .val (.ref qq), .unset] [(.ref qq), (.ref w0)])) rfl rfl (hb hby own_d_prog_21_18_5)
  refine own_st (fun u_ k_ => st270 u_ k_) ?_
  show own_Go p e below _ (T270.setTop (mkF m 8 #[.val (.ref pp), .val (.ref qq), .unset] [(.ref w0), (.ref w0)]))
  have F271 : Exa Z h0 w0 "com/example/tasdik/tasdik/core/cbor/CborValue$Type" := Exa.ext O0.2 hS.2.1
  have F272 : Fld Z h0 w0 "java/lang/Enum" "ordinal" "I" (.int (1 : Int32)) := Fld.ext O0.2 hS.2.2.1
  obtain ⟨T273, v273, L273, X273, hQ273, st273⟩ := own_callU X270 hx hZ (y := (⟨"com/example/tasdik/tasdik/core/cbor/CborValue$Type", "compareTo", "(Ljava/lang/Enum;)I"⟩ : MethodName)) (z := (⟨"java/lang/Enum", "compareTo", "(Ljava/lang/Enum;)I"⟩ : MethodName)) hown (hw _ (List.mem_of_getElem? (i := 78) rfl)) (hw _ (List.mem_of_getElem? (i := 79) rfl)) (hw _ (List.mem_of_getElem? (i := 80) rfl)) (hw _ (List.mem_of_getElem? (i := 82) rfl)) (hw _ (List.mem_of_getElem? (i := 81) rfl)) (hw _ (List.mem_of_getElem? (i := 83) rfl)) (hw _ (List.mem_of_getElem? (i := 84) rfl)) own_lm_225 (rmC l Z a0 hw [] w0 wl wp mr hS w0 (1 : Int32) h0 n0 O0 F271 F272) e270 F271 own_pd_226 (argsL := [(.ref w0)]) (rest := []) rfl rfl (g := (mkF m 8 #[.val (.ref pp), .val (.ref qq), .unset] [(.ref w0), (.ref w0)])) rfl (by rw [hml]; rfl) rfl (hb hby own_d_prog_21_18_8) (W := 0) rfl (by decide) (by decide) (by decide) (by decide)
  obtain ⟨rfl, M273, e273⟩ := hQ273
  have N273 := Fr.app N0 M273
  refine own_st (fun u_ k_ => st273 u_ k_) ?_
  show own_Go p e below _ (T273.setTop (mkF m 11 #[.val (.ref pp), .val (.ref qq), .unset] [(.int ((1 : Int32) - (1 : Int32)))]))
  refine own_st (fun u_ k_ => XS.istoreN X273.here hx rfl (hb hby own_d_prog_21_18_11) rfl (l' := #[.val (.ref pp), .val (.ref qq), .val (.int ((1 : Int32) - (1 : Int32)))]) rfl k_) ?_
  show own_Go p e below _ (T273.setTop (mkF m 12 #[.val (.ref pp), .val (.ref qq), .val (.int ((1 : Int32) - (1 : Int32)))] []))
  refine own_st (fun u_ k_ => XS.iloadN X273.here hx rfl (hb hby own_d_prog_21_18_12) rfl k_) ?_
  show own_Go p e below _ (T273.setTop (mkF m 13 #[.val (.ref pp), .val (.ref qq), .val (.int ((1 : Int32) - (1 : Int32)))] [(.int ((1 : Int32) - (1 : Int32)))]))
  refine own_st (fun u_ k_ => XS.ifNo X273.here hx rfl (hb hby own_d_prog_21_18_13) rfl (XT.i0_ne_f (by decide)) k_) ?_
  show own_Go p e below _ (T273.setTop (mkF m 16 #[.val (.ref pp), .val (.ref qq), .val (.int ((1 : Int32) - (1 : Int32)))] []))
  refine own_st (fun u_ k_ => XS.aloadN X273.here hx rfl (hb hby own_d_prog_21_18_16) rfl rfl k_) ?_
  show own_Go p e below _ (T273.setTop (mkF m 17 #[.val (.ref pp), .val (.ref qq), .val (.int ((1 : Int32) - (1 : Int32)))] [(.ref pp)]))
  obtain ⟨T274, X274, e274, st274⟩ := getF X273 hx hZ hown (host := "") (Or.inl (hw _ (List.mem_of_getElem? (i := 31) rfl))) Via.refl e273 T1 (g := (mkF m 17 #[.val (.ref pp), .val (.ref qq), .val (.int ((1 : Int32) - (1 : Int32)))] [(.ref pp)])) rfl rfl (hb hby own_d_prog_21_18_17)
  refine own_st (fun u_ k_ => st274 u_ k_) ?_
  show own_Go p e below _ (T274.setTop (mkF m 20 #[.val (.ref pp), .val (.ref qq), .val (.int ((1 : Int32) - (1 : Int32)))] [(.ref w0)]))
  obtain ⟨T275, v275, L275, X275, hQ275, st275⟩ := own_callU X274 hx hZ (y := (⟨"com/example/tasdik/tasdik/core/cbor/CborValue$Type", "ordinal", "()I"⟩ : MethodName)) (z := (⟨"java/lang/Enum", "ordinal", "()I"⟩ : MethodName)) hown (hw _ (List.mem_of_getElem? (i := 93) rfl)) (hw _ (List.mem_of_getElem? (i := 94) rfl)) (hw _ (List.mem_of_getElem? (i := 95) rfl)) (hw _ (List.mem_of_getElem? (i := 97) rfl)) (hw _ (List.mem_of_getElem? (i := 96) rfl)) (hw _ (List.mem_of_getElem? (i := 83) rfl)) (hw _ (List.mem_of_getElem? (i := 98) rfl)) own_lm_225 (rmO l Z a0 hw [] w0 wl wp mr hS w0 (1 : Int32) h0 n0 O0 F272) e274 F271 own_pd_233 (argsL := []) (rest := []) rfl rfl (g := (mkF m 20 #[.val (.ref pp), .val (.ref qq), .val (.int ((1 : Int32) - (1 : Int32)))] [(.ref w0)])) rfl (by rw [hml]; rfl) rfl (hb hby own_d_prog_21_18_20) (W := 0) rfl (by decide) (by decide) (by decide) (by decide)
  obtain ⟨rfl, M275, e275⟩ := hQ275
  have N275 := Fr.app N273 M275
  refine own_st (fun u_ k_ => st275 u_ k_) ?_
  show own_Go p e below _ (T275.setTop (mkF m 23 #[.val (.ref pp), .val (.ref qq), .val (.int ((1 : Int32) - (1 : Int32)))] [(.int (1 : Int32))]))
  refine own_st (fun u_ k_ => XS.tswIn X275.here hx rfl (pc0 := 23) (pc' := 92) (o := 69) rfl (hb hby own_d_prog_21_18_23) rfl (by decide) (by decide) (by decide) (by decide) k_) ?_
  show own_Go p e below _ (T275.setTop (mkF m 92 #[.val (.ref pp), .val (.ref qq), .val (.int ((1 : Int32) - (1 : Int32)))] []))
  refine own_st (fun u_ k_ => XS.aloadN X275.here hx rfl (hb hby own_d_prog_21_18_92) rfl rfl k_) ?_
  show own_Go p e below _ (T275.setTop (mkF m 93 #[.val (.ref pp), .val (.ref qq), .val (.int ((1 : Int32) - (1 : Int32)))] [(.ref pp)]))
  obtain ⟨T276, X276, e276, st276⟩ := getF X275 hx hZ hown (host := "") (Or.inl (hw _ (List.mem_of_getElem? (i := 37) rfl))) Via.refl e275 B1 (g := (mkF m 93 #[.val (.ref pp), .val (.ref qq), .val (.int ((1 : Int32) - (1 : Int32)))] [(.ref pp)])) rfl rfl (hb hby own_d_prog_21_18_93)
  refine own_st (fun u_ k_ => st276 u_ k_) ?_
  show own_Go p e below _ (T276.setTop (mkF m 96 #[.val (.ref pp), .val (.ref qq), .val (.int ((1 : Int32) - (1 : Int32)))] [(.ref a)]))
  refine own_st (fun u_ k_ => XS.aloadN X276.here hx rfl (hb hby own_d_prog_21_18_96) rfl rfl k_) ?_
  show own_Go p e below _ (T276.setTop (mkF m 97 #[.val (.ref pp), .val (.ref qq), .val (.int ((1 : Int32) - (1 : Int32)))] [(.ref qq), (.ref a)]))
  obtain ⟨T277, X277, e277, st277⟩ := getF X276 hx hZ hown (host := "") (Or.inl (hw _ (List.mem_of_getElem? (i := 37) rfl))) Via.refl e276 B2 (g := (mkF m 97 #[.val (.ref pp), .val (.ref qq), .val (.int ((1 : Int32) - (1 : Int32)))] [(.ref qq), (.ref a)])) rfl rfl (hb hby own_d_prog_21_18_97)
  refine own_st (fun u_ k_ => st277 u_ k_) ?_
  show own_Go p e below _ (T277.setTop (mkF m 100 #[.val (.ref pp), .val (.ref qq), .val (.int ((1 : Int32) - (1 : Int32)))] [(.ref b), (.ref a)]))
  obtain ⟨T278, v278, L278, X278, hQ278, st278⟩ := own_callS X277 hx hZ (y := (⟨"java/util/Arrays", "compareUnsigned", "([B[B)I"⟩ : MethodName)) hown (hw _ (List.mem_of_getElem? (i := 99) rfl)) (hw _ (List.mem_of_getElem? (i := 100) rfl)) (hw _ (List.mem_of_getElem? (i := 101) rfl)) (hw _ (List.mem_of_getElem? (i := 102) rfl)) own_lm_240 (rmU2_3 l Z a0 hw [] w0 wl wp mr hS a b ka kb v0 v1 v2 h0 n0 O0 V U ne) e277 own_pd_241 (argsL := [(.ref a), (.ref b)]) (rest := []) rfl rfl (g := (mkF m 100 #[.val (.ref pp), .val (.ref qq), .val (.int ((1 : Int32) - (1 : Int32)))] [(.ref b), (.ref a)])) rfl (by rw [hml]; rfl) rfl (hb hby own_d_prog_21_18_100) (W := 0) rfl (by decide) (by decide) (by decide) (by decide)
  obtain ⟨rfl, M278, e278⟩ := hQ278
  have N278 := Fr.app N275 M278
  refine own_st (fun u_ k_ => st278 u_ k_) ?_
  show own_Go p e below _ (T278.setTop (mkF m 103 #[.val (.ref pp), .val (.ref qq), .val (.int ((1 : Int32) - (1 : Int32)))] [(.int (-1 : Int32))]))
  refine own_st (fun u_ k_ => XS.goto X278.here hx rfl (pc0 := 103) (pc' := 187) rfl (hb hby own_d_prog_21_18_103) (by decide) (by decide) k_) ?_
  show own_Go p e below _ (T278.setTop (mkF m 187 #[.val (.ref pp), .val (.ref qq), .val (.int ((1 : Int32) - (1 : Int32)))] [(.int (-1 : Int32))]))
  refine own_st (fun u_ k_ => XS.istoreN X278.here hx rfl (hb hby own_d_prog_21_18_187) rfl (l' := #[.val (.ref pp), .val (.ref qq), .val (.int (-1 : Int32))]) rfl k_) ?_
  show own_Go p e below _ (T278.setTop (mkF m 188 #[.val (.ref pp), .val (.ref qq), .val (.int (-1 : Int32))] []))
  refine own_st (fun u_ k_ => XS.iloadN X278.here hx rfl (hb hby own_d_prog_21_18_188) rfl k_) ?_
  show own_Go p e below _ (T278.setTop (mkF m 189 #[.val (.ref pp), .val (.ref qq), .val (.int (-1 : Int32))] [(.int (-1 : Int32))]))
  exact own_retX X278 hx hlk hret rfl (Or.inl ⟨rfl, by simp, _, rfl⟩) (hb hby own_d_prog_21_18_189) (by decide) (by decide) (show QrmV2_3 Z w0 wl wp mr pp qq a b ka kb v0 v1 v2 h0 n0 (some (.int (-1 : Int32))) T278.heap _ from (by rw [e278]; exact ⟨rfl, N278, rfl⟩))
theorem own_ef_rmE2_3 (m : MethodId) (pp : Addr) (qq : Addr)  : entryFrame m #[(.ref pp), (.ref qq)] 3 = mkF m 0 #[.val (.ref pp), .val (.ref qq), .unset] [] := by first | (simp [entryFrame, mkF, argsToLocals, Value.category, maxLocals]; done) | rfl
def QrmE2_3 (Z : State) (w0 : Addr) (wl : Addr) (wp : Addr) (mr : Addr) (pp : Addr) (qq : Addr) (a : Addr) (b : Addr) (ka : ClassId) (kb : ClassId) (v0 : Int32) (v1 : Int32) (v2 : Int32) (h0 : Heap) (n0 : Nat) (v : Option Value) (h : Heap) (L : List Loc) : Prop := v = some (.int (0 : Int32)) ∧ Fr n0 L ∧ h = h0
set_option maxRecDepth 65536 in
set_option maxHeartbeats 40000000 in
theorem rmE2_3 (l : Launch) (Z : State) (a0 : Array Value) (hw : ∀ d ∈ tables_1, d.before a0 Z = true) (ws : List Jvm.Cond) (w0 : Addr) (wl : Addr) (wp : Addr) (mr : Addr) (hS : own_S Z w0 wl wp mr) (pp : Addr) (qq : Addr) (a : Addr) (b : Addr) (ka : ClassId) (kb : ClassId) (v0 : Int32) (v1 : Int32) (v2 : Int32) (h0 : Heap) (n0 : Nat) (O0 : Old Z n0 h0) (Ep : Exa Z h0 pp "com/example/tasdik/tasdik/core/cbor/CborValue") (Eq : Exa Z h0 qq "com/example/tasdik/tasdik/core/cbor/CborValue") (T1 : Fld Z h0 pp "com/example/tasdik/tasdik/core/cbor/CborValue" "type" "Lcom/example/tasdik/tasdik/core/cbor/CborValue$Type;" (.ref w0)) (T2 : Fld Z h0 qq "com/example/tasdik/tasdik/core/cbor/CborValue" "type" "Lcom/example/tasdik/tasdik/core/cbor/CborValue$Type;" (.ref w0)) (B1 : Fld Z h0 pp "com/example/tasdik/tasdik/core/cbor/CborValue" "bytes" "[B" (.ref a)) (B2 : Fld Z h0 qq "com/example/tasdik/tasdik/core/cbor/CborValue" "bytes" "[B" (.ref b)) (V : Arv Z h0 a ka .byte (2 : Int32) [(.int v0), (.int v1)] (.int (0 : Int32))) (U : Arv Z h0 b kb .byte (3 : Int32) [(.int v0), (.int v1), (.int v2)] (.int (0 : Int32))) (ne : a ≠ b) :
    own_Met l (⟨"com/example/tasdik/tasdik/core/cbor/CborValue", "equals", "(Ljava/lang/Object;)Z"⟩ : MethodName) prog_21_method_16_code 3 (some .boolean) ws ({ frames := 3, cells := 0, slots := 0, locals := 57 } : Room) Z h0 #[(.ref pp), (.ref qq)] (QrmE2_3 Z w0 wl wp mr pp qq a b ka kb v0 v1 v2 h0 n0) := by
  refine own_body (plainFor_of_name own_pn_119) ?_
  intro p e s m below meth c s₁ hx hby hml hown hnm hret hlk hZ e0 X0
  have N0 := Fr.nil n0
  refine own_st (fun u_ k_ => castTop (own_ef_rmE2_3 m pp qq) k_) ?_
  show own_Go p e below _ (s₁.setTop (mkF m 0 #[.val (.ref pp), .val (.ref qq), .unset] []))
  refine own_st (fun u_ k_ => XS.aloadN X0.here hx rfl (hb hby own_d_prog_21_16_0) rfl rfl k_) ?_
  show own_Go p e below _ (s₁.setTop (mkF m 1 #[.val (.ref pp), .val (.ref qq), .unset] [(.ref qq)]))
  obtain ⟨T279, X279, e279, st279⟩ := instY X0 hx hZ hown (hw _ (List.mem_of_getElem? (i := 9) rfl)) e0 (Ins.self Eq) (g := (mkF m 1 #[.val (.ref pp), .val (.ref qq), .unset] [(.ref qq)])) rfl rfl (hb hby own_d_prog_21_16_1)
  refine own_st (fun u_ k_ => st279 u_ k_) ?_
  show own_Go p e below _ (T279.setTop (mkF m 4 #[.val (.ref pp), .val (.ref qq), .unset] [(.int (1 : Int32))]))
  refine own_st (fun u_ k_ => XS.ifNo X279.here hx rfl (hb hby own_d_prog_21_16_4) rfl (XT.i0_eq_f (by decide)) k_) ?_
  show own_Go p e below _ (T279.setTop (mkF m 7 #[.val (.ref pp), .val (.ref qq), .unset] []))
  refine own_st (fun u_ k_ => XS.aloadN X279.here hx rfl (hb hby own_d_prog_21_16_7) rfl rfl k_) ?_
  show own_Go p e below _ (T279.setTop (mkF m 8 #[.val (.ref pp), .val (.ref qq), .unset] [(.ref qq)]))
  obtain ⟨T280, X280, e280, st280⟩ := castY X279 hx hZ hown (hw _ (List.mem_of_getElem? (i := 9) rfl)) e279 (Ins.self Eq) (g := (mkF m 8 #[.val (.ref pp), .val (.ref qq), .unset] [(.ref qq)])) rfl rfl (hb hby own_d_prog_21_16_8)
  refine own_st (fun u_ k_ => st280 u_ k_) ?_
  show own_Go p e below _ (T280.setTop (mkF m 11 #[.val (.ref pp), .val (.ref qq), .unset] [(.ref qq)]))
  refine own_st (fun u_ k_ => XS.astoreN X280.here hx rfl (hb hby own_d_prog_21_16_11) rfl rfl (l' := #[.val (.ref pp), .val (.ref qq), .val (.ref qq)]) rfl k_) ?_
  show own_Go p e below _ (T280.setTop (mkF m 12 #[.val (.ref pp), .val (.ref qq), .val (.ref qq)] []))
  refine own_st (fun u_ k_ => XS.aloadN X280.here hx rfl (hb hby own_d_prog_21_16_12) rfl rfl k_) ?_
  show own_Go p e below _ (T280.setTop (mkF m 13 #[.val (.ref pp), .val (.ref qq), .val (.ref qq)] [(.ref pp)]))
  refine own_st (fun u_ k_ => XS.aloadN X280.here hx rfl (hb hby own_d_prog_21_16_13) rfl rfl k_) ?_
  show own_Go p e below _ (T280.setTop (mkF m 14 #[.val (.ref pp), .val (.ref qq), .val (.ref qq)] [(.ref qq), (.ref pp)]))
  obtain ⟨T281, v281, L281, X281, hQ281, st281⟩ := own_callS X280 hx hZ (y := (⟨"com/example/tasdik/tasdik/core/cbor/CborValue", "compare", "(Lcom/example/tasdik/tasdik/core/cbor/CborValue;Lcom/example/tasdik/tasdik/core/cbor/CborValue;)I"⟩ : MethodName)) hown (hw _ (List.mem_of_getElem? (i := 75) rfl)) (hw _ (List.mem_of_getElem? (i := 76) rfl)) (hw _ (List.mem_of_getElem? (i := 7) rfl)) (hw _ (List.mem_of_getElem? (i := 77) rfl)) own_lm_134 (rmV2_3 l Z a0 hw [] w0 wl wp mr hS pp qq a b ka kb v0 v1 v2 h0 n0 O0 Ep Eq T1 T2 B1 B2 V U ne) e280 own_pd_255 (argsL := [(.ref pp), (.ref qq)]) (rest := []) rfl rfl (g := (mkF m 14 #[.val (.ref pp), .val (.ref qq), .val (.ref qq)] [(.ref qq), (.ref pp)])) rfl (by rw [hml]; rfl) rfl (hb hby own_d_prog_21_16_14) (W := 0) rfl (by decide) (by decide) (by decide) (by decide)
  obtain ⟨rfl, M281, e281⟩ := hQ281
  have N281 := Fr.app N0 M281
  refine own_st (fun u_ k_ => st281 u_ k_) ?_
  show own_Go p e below _ (T281.setTop (mkF m 17 #[.val (.ref pp), .val (.ref qq), .val (.ref qq)] [(.int (-1 : Int32))]))
  refine own_st (fun u_ k_ => XS.ifYes X281.here hx rfl (pc0 := 17) (pc' := 24) rfl (hb hby own_d_prog_21_16_17) rfl (XT.i0_ne_t (by decide)) (by decide) (by decide) k_) ?_
  show own_Go p e below _ (T281.setTop (mkF m 24 #[.val (.ref pp), .val (.ref qq), .val (.ref qq)] []))
  refine own_st (fun u_ k_ => XS.iconst X281.here hx rfl (hb hby own_d_prog_21_16_24) k_) ?_
  show own_Go p e below _ (T281.setTop (mkF m 25 #[.val (.ref pp), .val (.ref qq), .val (.ref qq)] [(.int (0 : Int32))]))
  exact own_retX X281 hx hlk hret rfl (Or.inl ⟨rfl, by simp, _, rfl⟩) (hb hby own_d_prog_21_16_25) (by decide) (by decide) (show QrmE2_3 Z w0 wl wp mr pp qq a b ka kb v0 v1 v2 h0 n0 (some (.int (0 : Int32))) T281.heap _ from (by rw [e281]; exact ⟨rfl, N281, rfl⟩))
theorem own_d_jdk_29_69_9 : decode jdk_29_method_69_code 9 = .ok (.iload_n 1, 1) := by decide +kernel
theorem own_ef_rmMin3_0 (m : MethodId)   : entryFrame m #[(.int (3 : Int32)), (.int (0 : Int32))] 2 = mkF m 0 #[.val (.int (3 : Int32)), .val (.int (0 : Int32))] [] := by first | (simp [entryFrame, mkF, argsToLocals, Value.category, maxLocals]; done) | rfl
def QrmMin3_0 (Z : State) (w0 : Addr) (wl : Addr) (wp : Addr) (mr : Addr)  (h0 : Heap) (n0 : Nat) (v : Option Value) (h : Heap) (L : List Loc) : Prop := v = some (.int (0 : Int32)) ∧ Fr n0 L ∧ h = h0
set_option maxRecDepth 65536 in
set_option maxHeartbeats 40000000 in
theorem rmMin3_0 (l : Launch) (Z : State) (a0 : Array Value) (hw : ∀ d ∈ tables_1, d.before a0 Z = true) (ws : List Jvm.Cond) (w0 : Addr) (wl : Addr) (wp : Addr) (mr : Addr) (hS : own_S Z w0 wl wp mr)  (h0 : Heap) (n0 : Nat) (O0 : Old Z n0 h0)  :
    own_Met l (⟨"java/lang/Math", "min", "(II)I"⟩ : MethodName) jdk_29_method_69_code 2 (some .int) ws ({ frames := 0, cells := 0, slots := 0, locals := 0 } : Room) Z h0 #[(.int (3 : Int32)), (.int (0 : Int32))] (QrmMin3_0 Z w0 wl wp mr  h0 n0) := by
  refine own_body own_pf_179 ?_
  intro p e s m below meth c s₁ hx hby hml hown hnm hret hlk hZ e0 X0
  have N0 := Fr.nil n0
  refine own_st (fun u_ k_ => castTop (own_ef_rmMin3_0 m ) k_) ?_
  show own_Go p e below _ (s₁.setTop (mkF m 0 #[.val (.int (3 : Int32)), .val (.int (0 : Int32))] []))
  refine own_st (fun u_ k_ => XS.iloadN X0.here hx rfl (hb hby own_d_jdk_29_69_0) rfl k_) ?_
  show own_Go p e below _ (s₁.setTop (mkF m 1 #[.val (.int (3 : Int32)), .val (.int (0 : Int32))] [(.int (3 : Int32))]))
  refine own_st (fun u_ k_ => XS.iloadN X0.here hx rfl (hb hby own_d_jdk_29_69_1) rfl k_) ?_
  show own_Go p e below _ (s₁.setTop (mkF m 2 #[.val (.int (3 : Int32)), .val (.int (0 : Int32))] [(.int (0 : Int32)), (.int (3 : Int32))]))
  refine own_st (fun u_ k_ => XS.icmpYes X0.here hx rfl (pc0 := 2) (pc' := 9) rfl (hb hby own_d_jdk_29_69_2) rfl (XT.ii_gt_t (by decide)) (by decide) (by decide) k_) ?_
  show own_Go p e below _ (s₁.setTop (mkF m 9 #[.val (.int (3 : Int32)), .val (.int (0 : Int32))] []))
  refine own_st (fun u_ k_ => XS.iloadN X0.here hx rfl (hb hby own_d_jdk_29_69_9) rfl k_) ?_
  show own_Go p e below _ (s₁.setTop (mkF m 10 #[.val (.int (3 : Int32)), .val (.int (0 : Int32))] [(.int (0 : Int32))]))
  exact own_retX X0 hx hlk hret rfl (Or.inl ⟨rfl, by simp, _, rfl⟩) (hb hby own_d_jdk_29_69_10) (by decide) (by decide) (show QrmMin3_0 Z w0 wl wp mr  h0 n0 (some (.int (0 : Int32))) s₁.heap _ from (by rw [e0]; exact ⟨rfl, N0, rfl⟩))
theorem own_ef_rmMis3_0 (m : MethodId) (a : Addr) (b : Addr)  : entryFrame m #[(.ref a), (.ref b), (.int (0 : Int32))] 4 = mkF m 0 #[.val (.ref a), .val (.ref b), .val (.int (0 : Int32)), .unset] [] := by first | (simp [entryFrame, mkF, argsToLocals, Value.category, maxLocals]; done) | rfl
def QrmMis3_0 (Z : State) (w0 : Addr) (wl : Addr) (wp : Addr) (mr : Addr) (a : Addr) (b : Addr) (ka : ClassId) (kb : ClassId) (v0 : Int32) (v1 : Int32) (v2 : Int32) (h0 : Heap) (n0 : Nat) (v : Option Value) (h : Heap) (L : List Loc) : Prop := v = some (.int (-1 : Int32)) ∧ Fr n0 L ∧ h = h0
set_option maxRecDepth 65536 in
set_option maxHeartbeats 40000000 in
theorem rmMis3_0 (l : Launch) (Z : State) (a0 : Array Value) (hw : ∀ d ∈ tables_1, d.before a0 Z = true) (ws : List Jvm.Cond) (w0 : Addr) (wl : Addr) (wp : Addr) (mr : Addr) (hS : own_S Z w0 wl wp mr) (a : Addr) (b : Addr) (ka : ClassId) (kb : ClassId) (v0 : Int32) (v1 : Int32) (v2 : Int32) (h0 : Heap) (n0 : Nat) (O0 : Old Z n0 h0) (V : Arv Z h0 a ka .byte (3 : Int32) [(.int v0), (.int v1), (.int v2)] (.int (0 : Int32))) (U : Arv Z h0 b kb .byte (0 : Int32) [] (.int (0 : Int32))) :
    own_Met l (⟨"jdk/internal/util/ArraysSupport", "mismatch", "([B[BI)I"⟩ : MethodName) jdk_48_method_13_code 4 (some .int) ws ({ frames := 0, cells := 0, slots := 0, locals := 0 } : Room) Z h0 #[(.ref a), (.ref b), (.int (0 : Int32))] (QrmMis3_0 Z w0 wl wp mr a b ka kb v0 v1 v2 h0 n0) := by
  refine own_body (plainFor_of_name own_pn_190) ?_
  intro p e s m below meth c s₁ hx hby hml hown hnm hret hlk hZ e0 X0
  have N0 := Fr.nil n0
  refine own_st (fun u_ k_ => castTop (own_ef_rmMis3_0 m a b) k_) ?_
  show own_Go p e below _ (s₁.setTop (mkF m 0 #[.val (.ref a), .val (.ref b), .val (.int (0 : Int32)), .unset] []))
  refine own_st (fun u_ k_ => XS.iconst X0.here hx rfl (hb hby own_d_jdk_48_13_0) k_) ?_
  show own_Go p e below _ (s₁.setTop (mkF m 1 #[.val (.ref a), .val (.ref b), .val (.int (0 : Int32)), .unset] [(.int (0 : Int32))]))
  refine own_st (fun u_ k_ => XS.istoreN X0.here hx rfl (hb hby own_d_jdk_48_13_1) rfl (l' := #[.val (.ref a), .val (.ref b), .val (.int (0 : Int32)), .val (.int (0 : Int32))]) rfl k_) ?_
  show own_Go p e below _ (s₁.setTop (mkF m 2 #[.val (.ref a), .val (.ref b), .val (.int (0 : Int32)), .val (.int (0 : Int32))] []))
  refine own_st (fun u_ k_ => XS.iloadN X0.here hx rfl (hb hby own_d_jdk_48_13_2) rfl k_) ?_
  show own_Go p e below _ (s₁.setTop (mkF m 3 #[.val (.ref a), .val (.ref b), .val (.int (0 : Int32)), .val (.int (0 : Int32))] [(.int (0 : Int32))]))
  refine own_st (fun u_ k_ => XS.bipush X0.here hx rfl (hb hby own_d_jdk_48_13_3) k_) ?_
  show own_Go p e below _ (s₁.setTop (mkF m 5 #[.val (.ref a), .val (.ref b), .val (.int (0 : Int32)), .val (.int (0 : Int32))] [(.int (7 : Int32)), (.int (0 : Int32))]))
  refine own_st (fun u_ k_ => XS.icmpYes X0.here hx rfl (pc0 := 5) (pc' := 49) rfl (hb hby own_d_jdk_48_13_5) rfl (XT.ii_le_t (by decide)) (by decide) (by decide) k_) ?_
  show own_Go p e below _ (s₁.setTop (mkF m 49 #[.val (.ref a), .val (.ref b), .val (.int (0 : Int32)), .val (.int (0 : Int32))] []))
  refine own_st (fun u_ k_ => XS.iloadN X0.here hx rfl (hb hby own_d_jdk_48_13_49) rfl k_) ?_
  show own_Go p e below _ (s₁.setTop (mkF m 50 #[.val (.ref a), .val (.ref b), .val (.int (0 : Int32)), .val (.int (0 : Int32))] [(.int (0 : Int32))]))
  refine own_st (fun u_ k_ => XS.iloadN X0.here hx rfl (hb hby own_d_jdk_48_13_50) rfl k_) ?_
  show own_Go p e below _ (s₁.setTop (mkF m 51 #[.val (.ref a), .val (.ref b), .val (.int (0 : Int32)), .val (.int (0 : Int32))] [(.int (0 : Int32)), (.int (0 : Int32))]))
  refine own_st (fun u_ k_ => XS.icmpYes X0.here hx rfl (pc0 := 51) (pc' := 71) rfl (hb hby own_d_jdk_48_13_51) rfl (XT.ii_ge_t (by decide)) (by decide) (by decide) k_) ?_
  show own_Go p e below _ (s₁.setTop (mkF m 71 #[.val (.ref a), .val (.ref b), .val (.int (0 : Int32)), .val (.int (0 : Int32))] []))
  refine own_st (fun u_ k_ => XS.iconst X0.here hx rfl (hb hby own_d_jdk_48_13_71) k_) ?_
  show own_Go p e below _ (s₁.setTop (mkF m 72 #[.val (.ref a), .val (.ref b), .val (.int (0 : Int32)), .val (.int (0 : Int32))] [(.int (-1 : Int32))]))
  exact own_retX X0 hx hlk hret rfl (Or.inl ⟨rfl, by simp, _, rfl⟩) (hb hby own_d_jdk_48_13_72) (by decide) (by decide) (show QrmMis3_0 Z w0 wl wp mr a b ka kb v0 v1 v2 h0 n0 (some (.int (-1 : Int32))) s₁.heap _ from (by rw [e0]; exact ⟨rfl, N0, rfl⟩))
theorem own_ef_rmU3_0 (m : MethodId) (a : Addr) (b : Addr)  : entryFrame m #[(.ref a), (.ref b)] 3 = mkF m 0 #[.val (.ref a), .val (.ref b), .unset] [] := by first | (simp [entryFrame, mkF, argsToLocals, Value.category, maxLocals]; done) | rfl
def QrmU3_0 (Z : State) (w0 : Addr) (wl : Addr) (wp : Addr) (mr : Addr) (a : Addr) (b : Addr) (ka : ClassId) (kb : ClassId) (v0 : Int32) (v1 : Int32) (v2 : Int32) (h0 : Heap) (n0 : Nat) (v : Option Value) (h : Heap) (L : List Loc) : Prop := v = some (.int (3 : Int32)) ∧ Fr n0 L ∧ h = h0
set_option maxRecDepth 65536 in
set_option maxHeartbeats 40000000 in
theorem rmU3_0 (l : Launch) (Z : State) (a0 : Array Value) (hw : ∀ d ∈ tables_1, d.before a0 Z = true) (ws : List Jvm.Cond) (w0 : Addr) (wl : Addr) (wp : Addr) (mr : Addr) (hS : own_S Z w0 wl wp mr) (a : Addr) (b : Addr) (ka : ClassId) (kb : ClassId) (v0 : Int32) (v1 : Int32) (v2 : Int32) (h0 : Heap) (n0 : Nat) (O0 : Old Z n0 h0) (V : Arv Z h0 a ka .byte (3 : Int32) [(.int v0), (.int v1), (.int v2)] (.int (0 : Int32))) (U : Arv Z h0 b kb .byte (0 : Int32) [] (.int (0 : Int32))) (ne : a ≠ b) :
    own_Met l (⟨"java/util/Arrays", "compareUnsigned", "([B[B)I"⟩ : MethodName) jdk_65_method_201_code 3 (some .int) ws ({ frames := 1, cells := 0, slots := 0, locals := 15 } : Room) Z h0 #[(.ref a), (.ref b)] (QrmU3_0 Z w0 wl wp mr a b ka kb v0 v1 v2 h0 n0) := by
  refine own_body (plainFor_of_name own_pn_219) ?_
  intro p e s m below meth c s₁ hx hby hml hown hnm hret hlk hZ e0 X0
  have N0 := Fr.nil n0
  refine own_st (fun u_ k_ => castTop (own_ef_rmU3_0 m a b) k_) ?_
  show own_Go p e below _ (s₁.setTop (mkF m 0 #[.val (.ref a), .val (.ref b), .unset] []))
  refine own_st (fun u_ k_ => XS.aloadN X0.here hx rfl (hb hby own_d_jdk_65_201_0) rfl rfl k_) ?_
  show own_Go p e below _ (s₁.setTop (mkF m 1 #[.val (.ref a), .val (.ref b), .unset] [(.ref a)]))
  refine own_st (fun u_ k_ => XS.aloadN X0.here hx rfl (hb hby own_d_jdk_65_201_1) rfl rfl k_) ?_
  show own_Go p e below _ (s₁.setTop (mkF m 2 #[.val (.ref a), .val (.ref b), .unset] [(.ref b), (.ref a)]))
  refine own_st (fun u_ k_ => XT.acmpYes X0.here hx rfl (pc0 := 2) (pc' := 7) rfl (hb hby own_d_jdk_65_201_2) rfl rfl rfl (XT.aa_ne_t (own_rne ne)) (by decide) (by decide) k_) ?_
  show own_Go p e below _ (s₁.setTop (mkF m 7 #[.val (.ref a), .val (.ref b), .unset] []))
  refine own_st (fun u_ k_ => XS.aloadN X0.here hx rfl (hb hby own_d_jdk_65_201_7) rfl rfl k_) ?_
  show own_Go p e below _ (s₁.setTop (mkF m 8 #[.val (.ref a), .val (.ref b), .unset] [(.ref a)]))
  refine own_st (fun u_ k_ => XS.ifnullNo X0.here hx rfl (hb hby own_d_jdk_65_201_8) rfl k_) ?_
  show own_Go p e below _ (s₁.setTop (mkF m 11 #[.val (.ref a), .val (.ref b), .unset] []))
  refine own_st (fun u_ k_ => XS.aloadN X0.here hx rfl (hb hby own_d_jdk_65_201_11) rfl rfl k_) ?_
  show own_Go p e below _ (s₁.setTop (mkF m 12 #[.val (.ref a), .val (.ref b), .unset] [(.ref b)]))
  refine own_st (fun u_ k_ => XS.ifnonnullYes X0.here hx rfl (pc0 := 12) (pc' := 25) rfl (hb hby own_d_jdk_65_201_12) rfl (by decide) (by decide) k_) ?_
  show own_Go p e below _ (s₁.setTop (mkF m 25 #[.val (.ref a), .val (.ref b), .unset] []))
  refine own_st (fun u_ k_ => XS.aloadN X0.here hx rfl (hb hby own_d_jdk_65_201_25) rfl rfl k_) ?_
  show own_Go p e below _ (s₁.setTop (mkF m 26 #[.val (.ref a), .val (.ref b), .unset] [(.ref a)]))
  refine own_st (fun u_ k_ => XS.aloadN X0.here hx rfl (hb hby own_d_jdk_65_201_26) rfl rfl k_) ?_
  show own_Go p e below _ (s₁.setTop (mkF m 27 #[.val (.ref a), .val (.ref b), .unset] [(.ref b), (.ref a)]))
  refine own_st (fun u_ k_ => XS.aloadN X0.here hx rfl (hb hby own_d_jdk_65_201_27) rfl rfl k_) ?_
  show own_Go p e below _ (s₁.setTop (mkF m 28 #[.val (.ref a), .val (.ref b), .unset] [(.ref a), (.ref b), (.ref a)]))
  obtain ⟨cl282, Ar282, -, S282, N282, -, -⟩ := id V
  refine own_st (X0.arraylength hx (by rw [e0]; exact Ar282.1) (State.isArrayOf_alike hZ.alike Ar282.2.1) (g := (mkF m 28 #[.val (.ref a), .val (.ref b), .unset] [(.ref a), (.ref b), (.ref a)])) rfl rfl (hb hby own_d_jdk_65_201_28)) ?_
  rw [len_of S282 N282]
  show own_Go p e below _ (s₁.setTop (mkF m 29 #[.val (.ref a), .val (.ref b), .unset] [(.int (3 : Int32)), (.ref b), (.ref a)]))
  refine own_st (fun u_ k_ => XS.aloadN X0.here hx rfl (hb hby own_d_jdk_65_201_29) rfl rfl k_) ?_
  show own_Go p e below _ (s₁.setTop (mkF m 30 #[.val (.ref a), .val (.ref b), .unset] [(.ref b), (.int (3 : Int32)), (.ref b), (.ref a)]))
  obtain ⟨cl283, Ar283, -, S283, N283, -, -⟩ := id U
  refine own_st (X0.arraylength hx (by rw [e0]; exact Ar283.1) (State.isArrayOf_alike hZ.alike Ar283.2.1) (g := (mkF m 30 #[.val (.ref a), .val (.ref b), .unset] [(.ref b), (.int (3 : Int32)), (.ref b), (.ref a)])) rfl rfl (hb hby own_d_jdk_65_201_30)) ?_
  rw [len_of S283 N283]
  show own_Go p e below _ (s₁.setTop (mkF m 31 #[.val (.ref a), .val (.ref b), .unset] [(.int (0 : Int32)), (.int (3 : Int32)), (.ref b), (.ref a)]))
  obtain ⟨T284, v284, L284, X284, hQ284, st284⟩ := own_callS X0 hx hZ (y := (⟨"java/lang/Math", "min", "(II)I"⟩ : MethodName)) hown (hw _ (List.mem_of_getElem? (i := 103) rfl)) (hw _ (List.mem_of_getElem? (i := 104) rfl)) (hw _ (List.mem_of_getElem? (i := 105) rfl)) (hw _ (List.mem_of_getElem? (i := 106) rfl)) own_lm_205 (rmMin3_0 l Z a0 hw [] w0 wl wp mr hS  h0 n0 O0 ) e0 own_pd_206 (argsL := [(.int (3 : Int32)), (.int (0 : Int32))]) (rest := [(.ref b), (.ref a)]) rfl rfl (g := (mkF m 31 #[.val (.ref a), .val (.ref b), .unset] [(.int (0 : Int32)), (.int (3 : Int32)), (.ref b), (.ref a)])) rfl (by rw [hml]; rfl) rfl (hb hby own_d_jdk_65_201_31) (W := 2) rfl (by decide) (by decide) (by decide) (by decide)
  obtain ⟨rfl, M284, e284⟩ := hQ284
  have N284 := Fr.app N0 M284
  refine own_st (fun u_ k_ => st284 u_ k_) ?_
  show own_Go p e below _ (T284.setTop (mkF m 34 #[.val (.ref a), .val (.ref b), .unset] [(.int (0 : Int32)), (.ref b), (.ref a)]))
  obtain ⟨T285, v285, L285, X285, hQ285, st285⟩ := own_callS X284 hx hZ (y := (⟨"jdk/internal/util/ArraysSupport", "mismatch", "([B[BI)I"⟩ : MethodName)) hown (hw _ (List.mem_of_getElem? (i := 107) rfl)) (hw _ (List.mem_of_getElem? (i := 108) rfl)) (hw _ (List.mem_of_getElem? (i := 109) rfl)) (hw _ (List.mem_of_getElem? (i := 110) rfl)) own_lm_208 (rmMis3_0 l Z a0 hw [] w0 wl wp mr hS a b ka kb v0 v1 v2 h0 n0 O0 V U) e284 own_pd_209 (argsL := [(.ref a), (.ref b), (.int (0 : Int32))]) (rest := []) rfl rfl (g := (mkF m 34 #[.val (.ref a), .val (.ref b), .unset] [(.int (0 : Int32)), (.ref b), (.ref a)])) rfl (by rw [hml]; rfl) rfl (hb hby own_d_jdk_65_201_34) (W := 0) rfl (by decide) (by decide) (by decide) (by decide)
  obtain ⟨rfl, M285, e285⟩ := hQ285
  have N285 := Fr.app N284 M285
  refine own_st (fun u_ k_ => st285 u_ k_) ?_
  show own_Go p e below _ (T285.setTop (mkF m 37 #[.val (.ref a), .val (.ref b), .unset] [(.int (-1 : Int32))]))
  refine own_st (fun u_ k_ => XS.istoreN X285.here hx rfl (hb hby own_d_jdk_65_201_37) rfl (l' := #[.val (.ref a), .val (.ref b), .val (.int (-1 : Int32))]) rfl k_) ?_
  show own_Go p e below _ (T285.setTop (mkF m 38 #[.val (.ref a), .val (.ref b), .val (.int (-1 : Int32))] []))
  refine own_st (fun u_ k_ => XS.iloadN X285.here hx rfl (hb hby own_d_jdk_65_201_38) rfl k_) ?_
  show own_Go p e below _ (T285.setTop (mkF m 39 #[.val (.ref a), .val (.ref b), .val (.int (-1 : Int32))] [(.int (-1 : Int32))]))
  refine own_st (fun u_ k_ => XS.ifYes X285.here hx rfl (pc0 := 39) (pc' := 52) rfl (hb hby own_d_jdk_65_201_39) rfl (XT.i0_lt_t (by decide)) (by decide) (by decide) k_) ?_
  show own_Go p e below _ (T285.setTop (mkF m 52 #[.val (.ref a), .val (.ref b), .val (.int (-1 : Int32))] []))
  refine own_st (fun u_ k_ => XS.aloadN X285.here hx rfl (hb hby own_d_jdk_65_201_52) rfl rfl k_) ?_
  show own_Go p e below _ (T285.setTop (mkF m 53 #[.val (.ref a), .val (.ref b), .val (.int (-1 : Int32))] [(.ref a)]))
  obtain ⟨cl286, Ar286, -, S286, N286, -, -⟩ := id V
  refine own_st (X285.arraylength hx (by rw [e285]; exact Ar286.1) (State.isArrayOf_alike hZ.alike Ar286.2.1) (g := (mkF m 53 #[.val (.ref a), .val (.ref b), .val (.int (-1 : Int32))] [(.ref a)])) rfl rfl (hb hby own_d_jdk_65_201_53)) ?_
  rw [len_of S286 N286]
  show own_Go p e below _ (T285.setTop (mkF m 54 #[.val (.ref a), .val (.ref b), .val (.int (-1 : Int32))] [(.int (3 : Int32))]))
  refine own_st (fun u_ k_ => XS.aloadN X285.here hx rfl (hb hby own_d_jdk_65_201_54) rfl rfl k_) ?_
  show own_Go p e below _ (T285.setTop (mkF m 55 #[.val (.ref a), .val (.ref b), .val (.int (-1 : Int32))] [(.ref b), (.int (3 : Int32))]))
  obtain ⟨cl287, Ar287, -, S287, N287, -, -⟩ := id U
  refine own_st (X285.arraylength hx (by rw [e285]; exact Ar287.1) (State.isArrayOf_alike hZ.alike Ar287.2.1) (g := (mkF m 55 #[.val (.ref a), .val (.ref b), .val (.int (-1 : Int32))] [(.ref b), (.int (3 : Int32))])) rfl rfl (hb hby own_d_jdk_65_201_55)) ?_
  rw [len_of S287 N287]
  show own_Go p e below _ (T285.setTop (mkF m 56 #[.val (.ref a), .val (.ref b), .val (.int (-1 : Int32))] [(.int (0 : Int32)), (.int (3 : Int32))]))
  refine own_st (fun u_ k_ => XS.isub X285.here hx rfl (hb hby own_d_jdk_65_201_56) rfl k_) ?_
  show own_Go p e below _ (T285.setTop (mkF m 57 #[.val (.ref a), .val (.ref b), .val (.int (-1 : Int32))] [(.int (3 : Int32))]))
  exact own_retX X285 hx hlk hret rfl (Or.inl ⟨rfl, by simp, _, rfl⟩) (hb hby own_d_jdk_65_201_57) (by decide) (by decide) (show QrmU3_0 Z w0 wl wp mr a b ka kb v0 v1 v2 h0 n0 (some (.int (3 : Int32))) T285.heap _ from (by rw [e285]; exact ⟨rfl, N285, rfl⟩))
theorem own_ef_rmV3_0 (m : MethodId) (pp : Addr) (qq : Addr)  : entryFrame m #[(.ref pp), (.ref qq)] 3 = mkF m 0 #[.val (.ref pp), .val (.ref qq), .unset] [] := by first | (simp [entryFrame, mkF, argsToLocals, Value.category, maxLocals]; done) | rfl
def QrmV3_0 (Z : State) (w0 : Addr) (wl : Addr) (wp : Addr) (mr : Addr) (pp : Addr) (qq : Addr) (a : Addr) (b : Addr) (ka : ClassId) (kb : ClassId) (v0 : Int32) (v1 : Int32) (v2 : Int32) (h0 : Heap) (n0 : Nat) (v : Option Value) (h : Heap) (L : List Loc) : Prop := v = some (.int (3 : Int32)) ∧ Fr n0 L ∧ h = h0
set_option maxRecDepth 65536 in
set_option maxHeartbeats 40000000 in
theorem rmV3_0 (l : Launch) (Z : State) (a0 : Array Value) (hw : ∀ d ∈ tables_1, d.before a0 Z = true) (ws : List Jvm.Cond) (w0 : Addr) (wl : Addr) (wp : Addr) (mr : Addr) (hS : own_S Z w0 wl wp mr) (pp : Addr) (qq : Addr) (a : Addr) (b : Addr) (ka : ClassId) (kb : ClassId) (v0 : Int32) (v1 : Int32) (v2 : Int32) (h0 : Heap) (n0 : Nat) (O0 : Old Z n0 h0) (Ep : Exa Z h0 pp "com/example/tasdik/tasdik/core/cbor/CborValue") (Eq : Exa Z h0 qq "com/example/tasdik/tasdik/core/cbor/CborValue") (T1 : Fld Z h0 pp "com/example/tasdik/tasdik/core/cbor/CborValue" "type" "Lcom/example/tasdik/tasdik/core/cbor/CborValue$Type;" (.ref w0)) (T2 : Fld Z h0 qq "com/example/tasdik/tasdik/core/cbor/CborValue" "type" "Lcom/example/tasdik/tasdik/core/cbor/CborValue$Type;" (.ref w0)) (B1 : Fld Z h0 pp "com/example/tasdik/tasdik/core/cbor/CborValue" "bytes" "[B" (.ref a)) (B2 : Fld Z h0 qq "com/example/tasdik/tasdik/core/cbor/CborValue" "bytes" "[B" (.ref b)) (V : Arv Z h0 a ka .byte (3 : Int32) [(.int v0), (.int v1), (.int v2)] (.int (0 : Int32))) (U : Arv Z h0 b kb .byte (0 : Int32) [] (.int (0 : Int32))) (ne : a ≠ b) :
    own_Met l (⟨"com/example/tasdik/tasdik/core/cbor/CborValue", "compare", "(Lcom/example/tasdik/tasdik/core/cbor/CborValue;Lcom/example/tasdik/tasdik/core/cbor/CborValue;)I"⟩ : MethodName) prog_21_method_18_code 3 (some .int) ws ({ frames := 2, cells := 0, slots := 0, locals := 43 } : Room) Z h0 #[(.ref pp), (.ref qq)] (QrmV3_0 Z w0 wl wp mr pp qq a b ka kb v0 v1 v2 h0 n0) := by
  refine own_body (plainFor_of_name own_pn_119) ?_
  intro p e s m below meth c s₁ hx hby hml hown hnm hret hlk hZ e0 X0
  have N0 := Fr.nil n0
  refine own_st (fun u_ k_ => castTop (own_ef_rmV3_0 m pp qq) k_) ?_
  show own_Go p e below _ (s₁.setTop (mkF m 0 #[.val (.ref pp), .val (.ref qq), .unset] []))
  refine own_st (fun u_ k_ => XS.aloadN X0.here hx rfl (hb hby own_d_prog_21_18_0) rfl rfl k_) ?_
  show own_Go p e below _ (s₁.setTop (mkF m 1 #[.val (.ref pp), .val (.ref qq), .unset] [(.ref pp)]))
  obtain ⟨T288, X288, e288, st288⟩ := getF X0 hx hZ hown (host := "") (Or.inl (hw _ (List.mem_of_getElem? (i := 31) rfl))) Via.refl e0 T1 (g := (mkF m 1 #[.val (.ref pp), .val (.ref qq), .unset] [(.ref pp)])) rfl rfl (hb hby own_d_prog_21_18_1)
  refine own_st (fun u_ k_ => st288 u_ k_) ?_
  show own_Go p e below _ (T288.setTop (mkF m 4 #[.val (.ref pp), .val (.ref qq), .unset] [(.ref w0)]))
  refine own_st (fun u_ k_ => XS.aloadN X288.here hx rfl (hb hby own_d_prog_21_18_4) rfl rfl k_) ?_
  show own_Go p e below _ (T288.setTop (mkF m 5 #[.val (.ref pp), .val (.ref qq), .unset] [(.ref qq), (.ref w0)]))
  obtain ⟨T289, X289, e289, st289⟩ := getF X288 hx hZ hown (host := "") (Or.inl (hw _ (List.mem_of_getElem? (i := 31) rfl))) Via.refl e288 T2 (g := (mkF m 5 #[.val (.ref pp), .val (.ref qq), .unset] [(.ref qq), (.ref w0)])) rfl rfl (hb hby own_d_prog_21_18_5)
  refine own_st (fun u_ k_ => st289 u_ k_) ?_
  show own_Go p e below _ (T289.setTop (mkF m 8 #[.val (.ref pp), .val (.ref qq), .unset] [(.ref w0), (.ref w0)]))
  have F290 : Exa Z h0 w0 "com/example/tasdik/tasdik/core/cbor/CborValue$Type" := Exa.ext O0.2 hS.2.1
  have F291 : Fld Z h0 w0 "java/lang/Enum" "ordinal" "I" (.int (1 : Int32)) := Fld.ext O0.2 hS.2.2.1
  obtain ⟨T292, v292, L292, X292, hQ292, st292⟩ := own_callU X289 hx hZ (y := (⟨"com/example/tasdik/tasdik/core/cbor/CborValue$Type", "compareTo", "(Ljava/lang/Enum;)I"⟩ : MethodName)) (z := (⟨"java/lang/Enum", "compareTo", "(Ljava/lang/Enum;)I"⟩ : MethodName)) hown (hw _ (List.mem_of_getElem? (i := 78) rfl)) (hw _ (List.mem_of_getElem? (i := 79) rfl)) (hw _ (List.mem_of_getElem? (i := 80) rfl)) (hw _ (List.mem_of_getElem? (i := 82) rfl)) (hw _ (List.mem_of_getElem? (i := 81) rfl)) (hw _ (List.mem_of_getElem? (i := 83) rfl)) (hw _ (List.mem_of_getElem? (i := 84) rfl)) own_lm_225 (rmC l Z a0 hw [] w0 wl wp mr hS w0 (1 : Int32) h0 n0 O0 F290 F291) e289 F290 own_pd_226 (argsL := [(.ref w0)]) (rest := []) rfl rfl (g := (mkF m 8 #[.val (.ref pp), .val (.ref qq), .unset] [(.ref w0), (.ref w0)])) rfl (by rw [hml]; rfl) rfl (hb hby own_d_prog_21_18_8) (W := 0) rfl (by decide) (by decide) (by decide) (by decide)
  obtain ⟨rfl, M292, e292⟩ := hQ292
  have N292 := Fr.app N0 M292
  refine own_st (fun u_ k_ => st292 u_ k_) ?_
  show own_Go p e below _ (T292.setTop (mkF m 11 #[.val (.ref pp), .val (.ref qq), .unset] [(.int ((1 : Int32) - (1 : Int32)))]))
  refine own_st (fun u_ k_ => XS.istoreN X292.here hx rfl (hb hby own_d_prog_21_18_11) rfl (l' := #[.val (.ref pp), .val (.ref qq), .val (.int ((1 : Int32) - (1 : Int32)))]) rfl k_) ?_
  show own_Go p e below _ (T292.setTop (mkF m 12 #[.val (.ref pp), .val (.ref qq), .val (.int ((1 : Int32) - (1 : Int32)))] []))
  refine own_st (fun u_ k_ => XS.iloadN X292.here hx rfl (hb hby own_d_prog_21_18_12) rfl k_) ?_
  show own_Go p e below _ (T292.setTop (mkF m 13 #[.val (.ref pp), .val (.ref qq), .val (.int ((1 : Int32) - (1 : Int32)))] [(.int ((1 : Int32) - (1 : Int32)))]))
  refine own_st (fun u_ k_ => XS.ifNo X292.here hx rfl (hb hby own_d_prog_21_18_13) rfl (XT.i0_ne_f (by decide)) k_) ?_
  show own_Go p e below _ (T292.setTop (mkF m 16 #[.val (.ref pp), .val (.ref qq), .val (.int ((1 : Int32) - (1 : Int32)))] []))
  refine own_st (fun u_ k_ => XS.aloadN X292.here hx rfl (hb hby own_d_prog_21_18_16) rfl rfl k_) ?_
  show own_Go p e below _ (T292.setTop (mkF m 17 #[.val (.ref pp), .val (.ref qq), .val (.int ((1 : Int32) - (1 : Int32)))] [(.ref pp)]))
  obtain ⟨T293, X293, e293, st293⟩ := getF X292 hx hZ hown (host := "") (Or.inl (hw _ (List.mem_of_getElem? (i := 31) rfl))) Via.refl e292 T1 (g := (mkF m 17 #[.val (.ref pp), .val (.ref qq), .val (.int ((1 : Int32) - (1 : Int32)))] [(.ref pp)])) rfl rfl (hb hby own_d_prog_21_18_17)
  refine own_st (fun u_ k_ => st293 u_ k_) ?_
  show own_Go p e below _ (T293.setTop (mkF m 20 #[.val (.ref pp), .val (.ref qq), .val (.int ((1 : Int32) - (1 : Int32)))] [(.ref w0)]))
  obtain ⟨T294, v294, L294, X294, hQ294, st294⟩ := own_callU X293 hx hZ (y := (⟨"com/example/tasdik/tasdik/core/cbor/CborValue$Type", "ordinal", "()I"⟩ : MethodName)) (z := (⟨"java/lang/Enum", "ordinal", "()I"⟩ : MethodName)) hown (hw _ (List.mem_of_getElem? (i := 93) rfl)) (hw _ (List.mem_of_getElem? (i := 94) rfl)) (hw _ (List.mem_of_getElem? (i := 95) rfl)) (hw _ (List.mem_of_getElem? (i := 97) rfl)) (hw _ (List.mem_of_getElem? (i := 96) rfl)) (hw _ (List.mem_of_getElem? (i := 83) rfl)) (hw _ (List.mem_of_getElem? (i := 98) rfl)) own_lm_225 (rmO l Z a0 hw [] w0 wl wp mr hS w0 (1 : Int32) h0 n0 O0 F291) e293 F290 own_pd_233 (argsL := []) (rest := []) rfl rfl (g := (mkF m 20 #[.val (.ref pp), .val (.ref qq), .val (.int ((1 : Int32) - (1 : Int32)))] [(.ref w0)])) rfl (by rw [hml]; rfl) rfl (hb hby own_d_prog_21_18_20) (W := 0) rfl (by decide) (by decide) (by decide) (by decide)
  obtain ⟨rfl, M294, e294⟩ := hQ294
  have N294 := Fr.app N292 M294
  refine own_st (fun u_ k_ => st294 u_ k_) ?_
  show own_Go p e below _ (T294.setTop (mkF m 23 #[.val (.ref pp), .val (.ref qq), .val (.int ((1 : Int32) - (1 : Int32)))] [(.int (1 : Int32))]))
  refine own_st (fun u_ k_ => XS.tswIn X294.here hx rfl (pc0 := 23) (pc' := 92) (o := 69) rfl (hb hby own_d_prog_21_18_23) rfl (by decide) (by decide) (by decide) (by decide) k_) ?_
  show own_Go p e below _ (T294.setTop (mkF m 92 #[.val (.ref pp), .val (.ref qq), .val (.int ((1 : Int32) - (1 : Int32)))] []))
  refine own_st (fun u_ k_ => XS.aloadN X294.here hx rfl (hb hby own_d_prog_21_18_92) rfl rfl k_) ?_
  show own_Go p e below _ (T294.setTop (mkF m 93 #[.val (.ref pp), .val (.ref qq), .val (.int ((1 : Int32) - (1 : Int32)))] [(.ref pp)]))
  obtain ⟨T295, X295, e295, st295⟩ := getF X294 hx hZ hown (host := "") (Or.inl (hw _ (List.mem_of_getElem? (i := 37) rfl))) Via.refl e294 B1 (g := (mkF m 93 #[.val (.ref pp), .val (.ref qq), .val (.int ((1 : Int32) - (1 : Int32)))] [(.ref pp)])) rfl rfl (hb hby own_d_prog_21_18_93)
  refine own_st (fun u_ k_ => st295 u_ k_) ?_
  show own_Go p e below _ (T295.setTop (mkF m 96 #[.val (.ref pp), .val (.ref qq), .val (.int ((1 : Int32) - (1 : Int32)))] [(.ref a)]))
  refine own_st (fun u_ k_ => XS.aloadN X295.here hx rfl (hb hby own_d_prog_21_18_96) rfl rfl k_) ?_
  show own_Go p e below _ (T295.setTop (mkF m 97 #[.val (.ref pp), .val (.ref qq), .val (.int ((1 : Int32) - (1 : Int32)))] [(.ref qq), (.ref a)]))
  obtain ⟨T296, X296, e296, st296⟩ := getF X295 hx hZ hown (host := "") (Or.inl (hw _ (List.mem_of_getElem? (i := 37) rfl))) Via.refl e295 B2 (g := (mkF m 97 #[.val (.ref pp), .val (.ref qq), .val (.int ((1 : Int32) - (1 : Int32)))] [(.ref qq), (.ref a)])) rfl rfl (hb hby own_d_prog_21_18_97)
  refine own_st (fun u_ k_ => st296 u_ k_) ?_
  show own_Go p e below _ (T296.setTop (mkF m 100 #[.val (.ref pp), .val (.ref qq), .val (.int ((1 : Int32) - (1 : Int32)))] [(.ref b), (.ref a)]))
  obtain ⟨T297, v297, L297, X297, hQ297, st297⟩ := own_callS X296 hx hZ (y := (⟨"java/util/Arrays", "compareUnsigned", "([B[B)I"⟩ : MethodName)) hown (hw _ (List.mem_of_getElem? (i := 99) rfl)) (hw _ (List.mem_of_getElem? (i := 100) rfl)) (hw _ (List.mem_of_getElem? (i := 101) rfl)) (hw _ (List.mem_of_getElem? (i := 102) rfl)) own_lm_240 (rmU3_0 l Z a0 hw [] w0 wl wp mr hS a b ka kb v0 v1 v2 h0 n0 O0 V U ne) e296 own_pd_241 (argsL := [(.ref a), (.ref b)]) (rest := []) rfl rfl (g := (mkF m 100 #[.val (.ref pp), .val (.ref qq), .val (.int ((1 : Int32) - (1 : Int32)))] [(.ref b), (.ref a)])) rfl (by rw [hml]; rfl) rfl (hb hby own_d_prog_21_18_100) (W := 0) rfl (by decide) (by decide) (by decide) (by decide)
  obtain ⟨rfl, M297, e297⟩ := hQ297
  have N297 := Fr.app N294 M297
  refine own_st (fun u_ k_ => st297 u_ k_) ?_
  show own_Go p e below _ (T297.setTop (mkF m 103 #[.val (.ref pp), .val (.ref qq), .val (.int ((1 : Int32) - (1 : Int32)))] [(.int (3 : Int32))]))
  refine own_st (fun u_ k_ => XS.goto X297.here hx rfl (pc0 := 103) (pc' := 187) rfl (hb hby own_d_prog_21_18_103) (by decide) (by decide) k_) ?_
  show own_Go p e below _ (T297.setTop (mkF m 187 #[.val (.ref pp), .val (.ref qq), .val (.int ((1 : Int32) - (1 : Int32)))] [(.int (3 : Int32))]))
  refine own_st (fun u_ k_ => XS.istoreN X297.here hx rfl (hb hby own_d_prog_21_18_187) rfl (l' := #[.val (.ref pp), .val (.ref qq), .val (.int (3 : Int32))]) rfl k_) ?_
  show own_Go p e below _ (T297.setTop (mkF m 188 #[.val (.ref pp), .val (.ref qq), .val (.int (3 : Int32))] []))
  refine own_st (fun u_ k_ => XS.iloadN X297.here hx rfl (hb hby own_d_prog_21_18_188) rfl k_) ?_
  show own_Go p e below _ (T297.setTop (mkF m 189 #[.val (.ref pp), .val (.ref qq), .val (.int (3 : Int32))] [(.int (3 : Int32))]))
  exact own_retX X297 hx hlk hret rfl (Or.inl ⟨rfl, by simp, _, rfl⟩) (hb hby own_d_prog_21_18_189) (by decide) (by decide) (show QrmV3_0 Z w0 wl wp mr pp qq a b ka kb v0 v1 v2 h0 n0 (some (.int (3 : Int32))) T297.heap _ from (by rw [e297]; exact ⟨rfl, N297, rfl⟩))
theorem own_ef_rmE3_0 (m : MethodId) (pp : Addr) (qq : Addr)  : entryFrame m #[(.ref pp), (.ref qq)] 3 = mkF m 0 #[.val (.ref pp), .val (.ref qq), .unset] [] := by first | (simp [entryFrame, mkF, argsToLocals, Value.category, maxLocals]; done) | rfl
def QrmE3_0 (Z : State) (w0 : Addr) (wl : Addr) (wp : Addr) (mr : Addr) (pp : Addr) (qq : Addr) (a : Addr) (b : Addr) (ka : ClassId) (kb : ClassId) (v0 : Int32) (v1 : Int32) (v2 : Int32) (h0 : Heap) (n0 : Nat) (v : Option Value) (h : Heap) (L : List Loc) : Prop := v = some (.int (0 : Int32)) ∧ Fr n0 L ∧ h = h0
set_option maxRecDepth 65536 in
set_option maxHeartbeats 40000000 in
theorem rmE3_0 (l : Launch) (Z : State) (a0 : Array Value) (hw : ∀ d ∈ tables_1, d.before a0 Z = true) (ws : List Jvm.Cond) (w0 : Addr) (wl : Addr) (wp : Addr) (mr : Addr) (hS : own_S Z w0 wl wp mr) (pp : Addr) (qq : Addr) (a : Addr) (b : Addr) (ka : ClassId) (kb : ClassId) (v0 : Int32) (v1 : Int32) (v2 : Int32) (h0 : Heap) (n0 : Nat) (O0 : Old Z n0 h0) (Ep : Exa Z h0 pp "com/example/tasdik/tasdik/core/cbor/CborValue") (Eq : Exa Z h0 qq "com/example/tasdik/tasdik/core/cbor/CborValue") (T1 : Fld Z h0 pp "com/example/tasdik/tasdik/core/cbor/CborValue" "type" "Lcom/example/tasdik/tasdik/core/cbor/CborValue$Type;" (.ref w0)) (T2 : Fld Z h0 qq "com/example/tasdik/tasdik/core/cbor/CborValue" "type" "Lcom/example/tasdik/tasdik/core/cbor/CborValue$Type;" (.ref w0)) (B1 : Fld Z h0 pp "com/example/tasdik/tasdik/core/cbor/CborValue" "bytes" "[B" (.ref a)) (B2 : Fld Z h0 qq "com/example/tasdik/tasdik/core/cbor/CborValue" "bytes" "[B" (.ref b)) (V : Arv Z h0 a ka .byte (3 : Int32) [(.int v0), (.int v1), (.int v2)] (.int (0 : Int32))) (U : Arv Z h0 b kb .byte (0 : Int32) [] (.int (0 : Int32))) (ne : a ≠ b) :
    own_Met l (⟨"com/example/tasdik/tasdik/core/cbor/CborValue", "equals", "(Ljava/lang/Object;)Z"⟩ : MethodName) prog_21_method_16_code 3 (some .boolean) ws ({ frames := 3, cells := 0, slots := 0, locals := 57 } : Room) Z h0 #[(.ref pp), (.ref qq)] (QrmE3_0 Z w0 wl wp mr pp qq a b ka kb v0 v1 v2 h0 n0) := by
  refine own_body (plainFor_of_name own_pn_119) ?_
  intro p e s m below meth c s₁ hx hby hml hown hnm hret hlk hZ e0 X0
  have N0 := Fr.nil n0
  refine own_st (fun u_ k_ => castTop (own_ef_rmE3_0 m pp qq) k_) ?_
  show own_Go p e below _ (s₁.setTop (mkF m 0 #[.val (.ref pp), .val (.ref qq), .unset] []))
  refine own_st (fun u_ k_ => XS.aloadN X0.here hx rfl (hb hby own_d_prog_21_16_0) rfl rfl k_) ?_
  show own_Go p e below _ (s₁.setTop (mkF m 1 #[.val (.ref pp), .val (.ref qq), .unset] [(.ref qq)]))
  obtain ⟨T298, X298, e298, st298⟩ := instY X0 hx hZ hown (hw _ (List.mem_of_getElem? (i := 9) rfl)) e0 (Ins.self Eq) (g := (mkF m 1 #[.val (.ref pp), .val (.ref qq), .unset] [(.ref qq)])) rfl rfl (hb hby own_d_prog_21_16_1)
  refine own_st (fun u_ k_ => st298 u_ k_) ?_
  show own_Go p e below _ (T298.setTop (mkF m 4 #[.val (.ref pp), .val (.ref qq), .unset] [(.int (1 : Int32))]))
  refine own_st (fun u_ k_ => XS.ifNo X298.here hx rfl (hb hby own_d_prog_21_16_4) rfl (XT.i0_eq_f (by decide)) k_) ?_
  show own_Go p e below _ (T298.setTop (mkF m 7 #[.val (.ref pp), .val (.ref qq), .unset] []))
  refine own_st (fun u_ k_ => XS.aloadN X298.here hx rfl (hb hby own_d_prog_21_16_7) rfl rfl k_) ?_
  show own_Go p e below _ (T298.setTop (mkF m 8 #[.val (.ref pp), .val (.ref qq), .unset] [(.ref qq)]))
  obtain ⟨T299, X299, e299, st299⟩ := castY X298 hx hZ hown (hw _ (List.mem_of_getElem? (i := 9) rfl)) e298 (Ins.self Eq) (g := (mkF m 8 #[.val (.ref pp), .val (.ref qq), .unset] [(.ref qq)])) rfl rfl (hb hby own_d_prog_21_16_8)
  refine own_st (fun u_ k_ => st299 u_ k_) ?_
  show own_Go p e below _ (T299.setTop (mkF m 11 #[.val (.ref pp), .val (.ref qq), .unset] [(.ref qq)]))
  refine own_st (fun u_ k_ => XS.astoreN X299.here hx rfl (hb hby own_d_prog_21_16_11) rfl rfl (l' := #[.val (.ref pp), .val (.ref qq), .val (.ref qq)]) rfl k_) ?_
  show own_Go p e below _ (T299.setTop (mkF m 12 #[.val (.ref pp), .val (.ref qq), .val (.ref qq)] []))
  refine own_st (fun u_ k_ => XS.aloadN X299.here hx rfl (hb hby own_d_prog_21_16_12) rfl rfl k_) ?_
  show own_Go p e below _ (T299.setTop (mkF m 13 #[.val (.ref pp), .val (.ref qq), .val (.ref qq)] [(.ref pp)]))
  refine own_st (fun u_ k_ => XS.aloadN X299.here hx rfl (hb hby own_d_prog_21_16_13) rfl rfl k_) ?_
  show own_Go p e below _ (T299.setTop (mkF m 14 #[.val (.ref pp), .val (.ref qq), .val (.ref qq)] [(.ref qq), (.ref pp)]))
  obtain ⟨T300, v300, L300, X300, hQ300, st300⟩ := own_callS X299 hx hZ (y := (⟨"com/example/tasdik/tasdik/core/cbor/CborValue", "compare", "(Lcom/example/tasdik/tasdik/core/cbor/CborValue;Lcom/example/tasdik/tasdik/core/cbor/CborValue;)I"⟩ : MethodName)) hown (hw _ (List.mem_of_getElem? (i := 75) rfl)) (hw _ (List.mem_of_getElem? (i := 76) rfl)) (hw _ (List.mem_of_getElem? (i := 7) rfl)) (hw _ (List.mem_of_getElem? (i := 77) rfl)) own_lm_134 (rmV3_0 l Z a0 hw [] w0 wl wp mr hS pp qq a b ka kb v0 v1 v2 h0 n0 O0 Ep Eq T1 T2 B1 B2 V U ne) e299 own_pd_255 (argsL := [(.ref pp), (.ref qq)]) (rest := []) rfl rfl (g := (mkF m 14 #[.val (.ref pp), .val (.ref qq), .val (.ref qq)] [(.ref qq), (.ref pp)])) rfl (by rw [hml]; rfl) rfl (hb hby own_d_prog_21_16_14) (W := 0) rfl (by decide) (by decide) (by decide) (by decide)
  obtain ⟨rfl, M300, e300⟩ := hQ300
  have N300 := Fr.app N0 M300
  refine own_st (fun u_ k_ => st300 u_ k_) ?_
  show own_Go p e below _ (T300.setTop (mkF m 17 #[.val (.ref pp), .val (.ref qq), .val (.ref qq)] [(.int (3 : Int32))]))
  refine own_st (fun u_ k_ => XS.ifYes X300.here hx rfl (pc0 := 17) (pc' := 24) rfl (hb hby own_d_prog_21_16_17) rfl (XT.i0_ne_t (by decide)) (by decide) (by decide) k_) ?_
  show own_Go p e below _ (T300.setTop (mkF m 24 #[.val (.ref pp), .val (.ref qq), .val (.ref qq)] []))
  refine own_st (fun u_ k_ => XS.iconst X300.here hx rfl (hb hby own_d_prog_21_16_24) k_) ?_
  show own_Go p e below _ (T300.setTop (mkF m 25 #[.val (.ref pp), .val (.ref qq), .val (.ref qq)] [(.int (0 : Int32))]))
  exact own_retX X300 hx hlk hret rfl (Or.inl ⟨rfl, by simp, _, rfl⟩) (hb hby own_d_prog_21_16_25) (by decide) (by decide) (show QrmE3_0 Z w0 wl wp mr pp qq a b ka kb v0 v1 v2 h0 n0 (some (.int (0 : Int32))) T300.heap _ from (by rw [e300]; exact ⟨rfl, N300, rfl⟩))
theorem own_lm_271 : ("com/example/tasdik/tasdik/core/cbor/CborValueByteStringPinLaw" : String) ≠ "java/lang/invoke/MethodHandle" ∧ ("com/example/tasdik/tasdik/core/cbor/CborValueByteStringPinLaw" : String) ≠ "java/lang/invoke/VarHandle" := by decide +kernel
theorem own_pd_272 : parseMethodDescriptor "(IIII)[B" = some ⟨[.int, .int, .int, .int], some (.array .byte)⟩ := by decide +kernel
theorem own_pd_273 : parseMethodDescriptor "([B)Lcom/example/tasdik/tasdik/core/cbor/CborValue;" = some ⟨[(.array .byte)], some (.object "com/example/tasdik/tasdik/core/cbor/CborValue")⟩ := by decide +kernel
theorem own_pd_274 : parseMethodDescriptor "()Lcom/example/tasdik/tasdik/core/cbor/CborValue$Type;" = some ⟨[], some (.object "com/example/tasdik/tasdik/core/cbor/CborValue$Type")⟩ := by decide +kernel
theorem own_pd_275 : parseMethodDescriptor "()[B" = some ⟨[], some (.array .byte)⟩ := by decide +kernel
theorem own_pd_276 : parseMethodDescriptor "(Ljava/lang/Object;)Z" = some ⟨[(.object "java/lang/Object")], some .boolean⟩ := by decide +kernel
-- the law itself
theorem own_ef_rm0 (m : MethodId) (n : Int32) (x1 : Int32) (y1 : Int32) (z1 : Int32)  : entryFrame m #[(.int n), (.int x1), (.int y1), (.int z1)] maxLocals = mkF m 0 #[.val (.int n), .val (.int x1), .val (.int y1), .val (.int z1), .unset, .unset, .unset, .unset, .unset, .unset, .unset, .unset] [] := by first | (simp [entryFrame, mkF, argsToLocals, Value.category, maxLocals]; done) | rfl
def Qrm0 (Z : State) (w0 : Addr) (wl : Addr) (wp : Addr) (mr : Addr) (n : Int32) (x1 : Int32) (y1 : Int32) (z1 : Int32) (h0 : Heap) (n0 : Nat) (v : Option Value) (h : Heap) (L : List Loc) : Prop := v = some (.int (1 : Int32)) ∧ Fr n0 L ∧ Keep h0 h []
set_option maxRecDepth 65536 in
set_option maxHeartbeats 40000000 in
theorem rm0 (l : Launch) (Z : State) (a0 : Array Value) (hw : ∀ d ∈ tables_1, d.before a0 Z = true) (ws : List Jvm.Cond) (w0 : Addr) (wl : Addr) (wp : Addr) (mr : Addr) (hS : own_S Z w0 wl wp mr) (n : Int32) (x1 : Int32) (y1 : Int32) (z1 : Int32) (h0 : Heap) (n0 : Nat) (O0 : Old Z n0 h0)  :
    own_Met l x code maxLocals ret ws room_1 Z h0 #[(.int n), (.int x1), (.int y1), (.int z1)] (Qrm0 Z w0 wl wp mr n x1 y1 z1 h0 n0) := by
  refine own_body (plainFor_of_name own_pn_12) ?_
  intro p e s m below meth c s₁ hx hby hml hown hnm hret hlk hZ e0 X0
  have N0 := Fr.nil n0
  refine own_st (fun u_ k_ => castTop (own_ef_rm0 m n x1 y1 z1) k_) ?_
  show own_Go p e below _ (s₁.setTop (mkF m 0 #[.val (.int n), .val (.int x1), .val (.int y1), .val (.int z1), .unset, .unset, .unset, .unset, .unset, .unset, .unset, .unset] []))
  refine own_st (fun u_ k_ => XS.iloadN X0.here hx rfl (hb hby at_0) rfl k_) ?_
  show own_Go p e below _ (s₁.setTop (mkF m 1 #[.val (.int n), .val (.int x1), .val (.int y1), .val (.int z1), .unset, .unset, .unset, .unset, .unset, .unset, .unset, .unset] [(.int n)]))
  refine own_st (fun u_ k_ => XS.iconst X0.here hx rfl (hb hby at_1) k_) ?_
  show own_Go p e below _ (s₁.setTop (mkF m 2 #[.val (.int n), .val (.int x1), .val (.int y1), .val (.int z1), .unset, .unset, .unset, .unset, .unset, .unset, .unset, .unset] [(.int (3 : Int32)), (.int n)]))
  refine own_st (fun u_ k_ => XS.iand X0.here hx rfl (hb hby at_2) rfl k_) ?_
  show own_Go p e below _ (s₁.setTop (mkF m 3 #[.val (.int n), .val (.int x1), .val (.int y1), .val (.int z1), .unset, .unset, .unset, .unset, .unset, .unset, .unset, .unset] [(.int (n &&& (3 : Int32)))]))
  rcases own_and3 n with hj | hj | hj | hj
  · rw [hj]
    show own_Go p e below _ (s₁.setTop (mkF m 3 #[.val (.int n), .val (.int x1), .val (.int y1), .val (.int z1), .unset, .unset, .unset, .unset, .unset, .unset, .unset, .unset] [(.int (0 : Int32))]))
    refine own_st (fun u_ k_ => XS.istore X0.here hx rfl (hb hby at_3) rfl (l' := #[.val (.int n), .val (.int x1), .val (.int y1), .val (.int z1), .val (.int (0 : Int32)), .unset, .unset, .unset, .unset, .unset, .unset, .unset]) rfl k_) ?_
    show own_Go p e below _ (s₁.setTop (mkF m 5 #[.val (.int n), .val (.int x1), .val (.int y1), .val (.int z1), .val (.int (0 : Int32)), .unset, .unset, .unset, .unset, .unset, .unset, .unset] []))
    refine own_st (fun u_ k_ => XS.iload X0.here hx rfl (hb hby at_5) rfl k_) ?_
    show own_Go p e below _ (s₁.setTop (mkF m 7 #[.val (.int n), .val (.int x1), .val (.int y1), .val (.int z1), .val (.int (0 : Int32)), .unset, .unset, .unset, .unset, .unset, .unset, .unset] [(.int (0 : Int32))]))
    refine own_st (fun u_ k_ => XS.iloadN X0.here hx rfl (hb hby at_7) rfl k_) ?_
    show own_Go p e below _ (s₁.setTop (mkF m 8 #[.val (.int n), .val (.int x1), .val (.int y1), .val (.int z1), .val (.int (0 : Int32)), .unset, .unset, .unset, .unset, .unset, .unset, .unset] [(.int x1), (.int (0 : Int32))]))
    refine own_st (fun u_ k_ => XS.iloadN X0.here hx rfl (hb hby at_8) rfl k_) ?_
    show own_Go p e below _ (s₁.setTop (mkF m 9 #[.val (.int n), .val (.int x1), .val (.int y1), .val (.int z1), .val (.int (0 : Int32)), .unset, .unset, .unset, .unset, .unset, .unset, .unset] [(.int y1), (.int x1), (.int (0 : Int32))]))
    refine own_st (fun u_ k_ => XS.iloadN X0.here hx rfl (hb hby at_9) rfl k_) ?_
    show own_Go p e below _ (s₁.setTop (mkF m 10 #[.val (.int n), .val (.int x1), .val (.int y1), .val (.int z1), .val (.int (0 : Int32)), .unset, .unset, .unset, .unset, .unset, .unset, .unset] [(.int z1), (.int y1), (.int x1), (.int (0 : Int32))]))
    obtain ⟨T301, v301, L301, X301, hQ301, st301⟩ := own_callS X0 hx hZ (y := (⟨"com/example/tasdik/tasdik/core/cbor/CborValueByteStringPinLaw", "make", "(IIII)[B"⟩ : MethodName)) hown (hw _ (List.mem_of_getElem? (i := 0) rfl)) (hw _ (List.mem_of_getElem? (i := 1) rfl)) (hw _ (List.mem_of_getElem? (i := 2) rfl)) (hw _ (List.mem_of_getElem? (i := 3) rfl)) own_lm_271 (rmK0 l Z a0 hw [] w0 wl wp mr hS x1 y1 z1 h0 n0 O0 ) e0 own_pd_272 (argsL := [(.int (0 : Int32)), (.int x1), (.int y1), (.int z1)]) (rest := []) rfl rfl (g := (mkF m 10 #[.val (.int n), .val (.int x1), .val (.int y1), .val (.int z1), .val (.int (0 : Int32)), .unset, .unset, .unset, .unset, .unset, .unset, .unset] [(.int z1), (.int y1), (.int x1), (.int (0 : Int32))])) rfl (by rw [hml]; rfl) rfl (hb hby at_10) (W := 0) rfl (by decide) (by decide) (by decide) (by decide)
    obtain ⟨r_302, kr_303, rfl, M301, K301, z304, F305, F306⟩ := hQ301
    have N301 := Fr.app N0 M301
    refine own_st (fun u_ k_ => st301 u_ k_) ?_
    show own_Go p e below _ (T301.setTop (mkF m 13 #[.val (.int n), .val (.int x1), .val (.int y1), .val (.int z1), .val (.int (0 : Int32)), .unset, .unset, .unset, .unset, .unset, .unset, .unset] [(.ref r_302)]))
    refine own_st (fun u_ k_ => XS.astore X301.here hx rfl (hb hby at_13) rfl rfl (l' := #[.val (.int n), .val (.int x1), .val (.int y1), .val (.int z1), .val (.int (0 : Int32)), .val (.ref r_302), .unset, .unset, .unset, .unset, .unset, .unset]) rfl k_) ?_
    show own_Go p e below _ (T301.setTop (mkF m 15 #[.val (.int n), .val (.int x1), .val (.int y1), .val (.int z1), .val (.int (0 : Int32)), .val (.ref r_302), .unset, .unset, .unset, .unset, .unset, .unset] []))
    refine own_st (fun u_ k_ => XS.iload X301.here hx rfl (hb hby at_15) rfl k_) ?_
    show own_Go p e below _ (T301.setTop (mkF m 17 #[.val (.int n), .val (.int x1), .val (.int y1), .val (.int z1), .val (.int (0 : Int32)), .val (.ref r_302), .unset, .unset, .unset, .unset, .unset, .unset] [(.int (0 : Int32))]))
    refine own_st (fun u_ k_ => XS.iloadN X301.here hx rfl (hb hby at_17) rfl k_) ?_
    show own_Go p e below _ (T301.setTop (mkF m 18 #[.val (.int n), .val (.int x1), .val (.int y1), .val (.int z1), .val (.int (0 : Int32)), .val (.ref r_302), .unset, .unset, .unset, .unset, .unset, .unset] [(.int x1), (.int (0 : Int32))]))
    refine own_st (fun u_ k_ => XS.iloadN X301.here hx rfl (hb hby at_18) rfl k_) ?_
    show own_Go p e below _ (T301.setTop (mkF m 19 #[.val (.int n), .val (.int x1), .val (.int y1), .val (.int z1), .val (.int (0 : Int32)), .val (.ref r_302), .unset, .unset, .unset, .unset, .unset, .unset] [(.int y1), (.int x1), (.int (0 : Int32))]))
    refine own_st (fun u_ k_ => XS.iloadN X301.here hx rfl (hb hby at_19) rfl k_) ?_
    show own_Go p e below _ (T301.setTop (mkF m 20 #[.val (.int n), .val (.int x1), .val (.int y1), .val (.int z1), .val (.int (0 : Int32)), .val (.ref r_302), .unset, .unset, .unset, .unset, .unset, .unset] [(.int z1), (.int y1), (.int x1), (.int (0 : Int32))]))
    have O308 : Old Z n0 T301.heap := O0.keep K301 all0
    obtain ⟨T307, v307, L307, X307, hQ307, st307⟩ := own_callS X301 hx hZ (y := (⟨"com/example/tasdik/tasdik/core/cbor/CborValueByteStringPinLaw", "make", "(IIII)[B"⟩ : MethodName)) hown (hw _ (List.mem_of_getElem? (i := 0) rfl)) (hw _ (List.mem_of_getElem? (i := 1) rfl)) (hw _ (List.mem_of_getElem? (i := 2) rfl)) (hw _ (List.mem_of_getElem? (i := 3) rfl)) own_lm_271 (rmK0 l Z a0 hw [] w0 wl wp mr hS x1 y1 z1 T301.heap n0 O308 ) rfl own_pd_272 (argsL := [(.int (0 : Int32)), (.int x1), (.int y1), (.int z1)]) (rest := []) rfl rfl (g := (mkF m 20 #[.val (.int n), .val (.int x1), .val (.int y1), .val (.int z1), .val (.int (0 : Int32)), .val (.ref r_302), .unset, .unset, .unset, .unset, .unset, .unset] [(.int z1), (.int y1), (.int x1), (.int (0 : Int32))])) rfl (by rw [hml]; rfl) rfl (hb hby at_20) (W := 0) rfl (by decide) (by decide) (by decide) (by decide)
    obtain ⟨r_309, kr_310, rfl, M307, K307, z311, F312, F313⟩ := hQ307
    have N307 := Fr.app N301 M307
    refine own_st (fun u_ k_ => st307 u_ k_) ?_
    show own_Go p e below _ (T307.setTop (mkF m 23 #[.val (.int n), .val (.int x1), .val (.int y1), .val (.int z1), .val (.int (0 : Int32)), .val (.ref r_302), .unset, .unset, .unset, .unset, .unset, .unset] [(.ref r_309)]))
    refine own_st (fun u_ k_ => XS.astore X307.here hx rfl (hb hby at_23) rfl rfl (l' := #[.val (.int n), .val (.int x1), .val (.int y1), .val (.int z1), .val (.int (0 : Int32)), .val (.ref r_302), .val (.ref r_309), .unset, .unset, .unset, .unset, .unset]) rfl k_) ?_
    show own_Go p e below _ (T307.setTop (mkF m 25 #[.val (.int n), .val (.int x1), .val (.int y1), .val (.int z1), .val (.int (0 : Int32)), .val (.ref r_302), .val (.ref r_309), .unset, .unset, .unset, .unset, .unset] []))
    refine own_st (fun u_ k_ => XS.iload X307.here hx rfl (hb hby at_25) rfl k_) ?_
    show own_Go p e below _ (T307.setTop (mkF m 27 #[.val (.int n), .val (.int x1), .val (.int y1), .val (.int z1), .val (.int (0 : Int32)), .val (.ref r_302), .val (.ref r_309), .unset, .unset, .unset, .unset, .unset] [(.int (0 : Int32))]))
    refine own_st (fun u_ k_ => XS.iconst X307.here hx rfl (hb hby at_27) k_) ?_
    show own_Go p e below _ (T307.setTop (mkF m 28 #[.val (.int n), .val (.int x1), .val (.int y1), .val (.int z1), .val (.int (0 : Int32)), .val (.ref r_302), .val (.ref r_309), .unset, .unset, .unset, .unset, .unset] [(.int (1 : Int32)), (.int (0 : Int32))]))
    refine own_st (fun u_ k_ => XS.iadd X307.here hx rfl (hb hby at_28) rfl k_) ?_
    show own_Go p e below _ (T307.setTop (mkF m 29 #[.val (.int n), .val (.int x1), .val (.int y1), .val (.int z1), .val (.int (0 : Int32)), .val (.ref r_302), .val (.ref r_309), .unset, .unset, .unset, .unset, .unset] [(.int (1 : Int32))]))
    refine own_st (fun u_ k_ => XS.iconst X307.here hx rfl (hb hby at_29) k_) ?_
    show own_Go p e below _ (T307.setTop (mkF m 30 #[.val (.int n), .val (.int x1), .val (.int y1), .val (.int z1), .val (.int (0 : Int32)), .val (.ref r_302), .val (.ref r_309), .unset, .unset, .unset, .unset, .unset] [(.int (3 : Int32)), (.int (1 : Int32))]))
    refine own_st (fun u_ k_ => XS.iand X307.here hx rfl (hb hby at_30) rfl k_) ?_
    show own_Go p e below _ (T307.setTop (mkF m 31 #[.val (.int n), .val (.int x1), .val (.int y1), .val (.int z1), .val (.int (0 : Int32)), .val (.ref r_302), .val (.ref r_309), .unset, .unset, .unset, .unset, .unset] [(.int (1 : Int32))]))
    refine own_st (fun u_ k_ => XS.iloadN X307.here hx rfl (hb hby at_31) rfl k_) ?_
    show own_Go p e below _ (T307.setTop (mkF m 32 #[.val (.int n), .val (.int x1), .val (.int y1), .val (.int z1), .val (.int (0 : Int32)), .val (.ref r_302), .val (.ref r_309), .unset, .unset, .unset, .unset, .unset] [(.int x1), (.int (1 : Int32))]))
    refine own_st (fun u_ k_ => XS.iloadN X307.here hx rfl (hb hby at_32) rfl k_) ?_
    show own_Go p e below _ (T307.setTop (mkF m 33 #[.val (.int n), .val (.int x1), .val (.int y1), .val (.int z1), .val (.int (0 : Int32)), .val (.ref r_302), .val (.ref r_309), .unset, .unset, .unset, .unset, .unset] [(.int y1), (.int x1), (.int (1 : Int32))]))
    refine own_st (fun u_ k_ => XS.iloadN X307.here hx rfl (hb hby at_33) rfl k_) ?_
    show own_Go p e below _ (T307.setTop (mkF m 34 #[.val (.int n), .val (.int x1), .val (.int y1), .val (.int z1), .val (.int (0 : Int32)), .val (.ref r_302), .val (.ref r_309), .unset, .unset, .unset, .unset, .unset] [(.int z1), (.int y1), (.int x1), (.int (1 : Int32))]))
    have O315 : Old Z n0 T307.heap := O308.keep K307 all0
    obtain ⟨T314, v314, L314, X314, hQ314, st314⟩ := own_callS X307 hx hZ (y := (⟨"com/example/tasdik/tasdik/core/cbor/CborValueByteStringPinLaw", "make", "(IIII)[B"⟩ : MethodName)) hown (hw _ (List.mem_of_getElem? (i := 0) rfl)) (hw _ (List.mem_of_getElem? (i := 1) rfl)) (hw _ (List.mem_of_getElem? (i := 2) rfl)) (hw _ (List.mem_of_getElem? (i := 3) rfl)) own_lm_271 (rmK1 l Z a0 hw [] w0 wl wp mr hS x1 y1 z1 T307.heap n0 O315 ) rfl own_pd_272 (argsL := [(.int (1 : Int32)), (.int x1), (.int y1), (.int z1)]) (rest := []) rfl rfl (g := (mkF m 34 #[.val (.int n), .val (.int x1), .val (.int y1), .val (.int z1), .val (.int (0 : Int32)), .val (.ref r_302), .val (.ref r_309), .unset, .unset, .unset, .unset, .unset] [(.int z1), (.int y1), (.int x1), (.int (1 : Int32))])) rfl (by rw [hml]; rfl) rfl (hb hby at_34) (W := 0) rfl (by decide) (by decide) (by decide) (by decide)
    obtain ⟨r_316, kr_317, rfl, M314, K314, z318, F319, F320⟩ := hQ314
    have N314 := Fr.app N307 M314
    refine own_st (fun u_ k_ => st314 u_ k_) ?_
    show own_Go p e below _ (T314.setTop (mkF m 37 #[.val (.int n), .val (.int x1), .val (.int y1), .val (.int z1), .val (.int (0 : Int32)), .val (.ref r_302), .val (.ref r_309), .unset, .unset, .unset, .unset, .unset] [(.ref r_316)]))
    refine own_st (fun u_ k_ => XS.astore X314.here hx rfl (hb hby at_37) rfl rfl (l' := #[.val (.int n), .val (.int x1), .val (.int y1), .val (.int z1), .val (.int (0 : Int32)), .val (.ref r_302), .val (.ref r_309), .val (.ref r_316), .unset, .unset, .unset, .unset]) rfl k_) ?_
    show own_Go p e below _ (T314.setTop (mkF m 39 #[.val (.int n), .val (.int x1), .val (.int y1), .val (.int z1), .val (.int (0 : Int32)), .val (.ref r_302), .val (.ref r_309), .val (.ref r_316), .unset, .unset, .unset, .unset] []))
    refine own_st (fun u_ k_ => XS.aload X314.here hx rfl (hb hby at_39) rfl rfl k_) ?_
    show own_Go p e below _ (T314.setTop (mkF m 41 #[.val (.int n), .val (.int x1), .val (.int y1), .val (.int z1), .val (.int (0 : Int32)), .val (.ref r_302), .val (.ref r_309), .val (.ref r_316), .unset, .unset, .unset, .unset] [(.ref r_302)]))
    have O322 : Old Z n0 T314.heap := O315.keep K314 all0
    obtain ⟨T321, v321, L321, X321, hQ321, st321⟩ := own_callS X314 hx hZ (y := (⟨"com/example/tasdik/tasdik/core/cbor/CborValue", "byteString", "([B)Lcom/example/tasdik/tasdik/core/cbor/CborValue;"⟩ : MethodName)) hown (hw _ (List.mem_of_getElem? (i := 5) rfl)) (hw _ (List.mem_of_getElem? (i := 6) rfl)) (hw _ (List.mem_of_getElem? (i := 7) rfl)) (hw _ (List.mem_of_getElem? (i := 8) rfl)) own_lm_134 (rmB l Z a0 hw [] w0 wl wp mr hS r_302 T314.heap n0 O322 ) rfl own_pd_273 (argsL := [(.ref r_302)]) (rest := []) rfl rfl (g := (mkF m 41 #[.val (.int n), .val (.int x1), .val (.int y1), .val (.int z1), .val (.int (0 : Int32)), .val (.ref r_302), .val (.ref r_309), .val (.ref r_316), .unset, .unset, .unset, .unset] [(.ref r_302)])) rfl (by rw [hml]; rfl) rfl (hb hby at_41) (W := 0) rfl (by decide) (by decide) (by decide) (by decide)
    obtain ⟨r_323, rfl, M321, K321, z324, F325, F326, F327⟩ := hQ321
    have N321 := Fr.app N314 M321
    refine own_st (fun u_ k_ => st321 u_ k_) ?_
    show own_Go p e below _ (T321.setTop (mkF m 44 #[.val (.int n), .val (.int x1), .val (.int y1), .val (.int z1), .val (.int (0 : Int32)), .val (.ref r_302), .val (.ref r_309), .val (.ref r_316), .unset, .unset, .unset, .unset] [(.ref r_323)]))
    refine own_st (fun u_ k_ => XS.astore X321.here hx rfl (hb hby at_44) rfl rfl (l' := #[.val (.int n), .val (.int x1), .val (.int y1), .val (.int z1), .val (.int (0 : Int32)), .val (.ref r_302), .val (.ref r_309), .val (.ref r_316), .val (.ref r_323), .unset, .unset, .unset]) rfl k_) ?_
    show own_Go p e below _ (T321.setTop (mkF m 46 #[.val (.int n), .val (.int x1), .val (.int y1), .val (.int z1), .val (.int (0 : Int32)), .val (.ref r_302), .val (.ref r_309), .val (.ref r_316), .val (.ref r_323), .unset, .unset, .unset] []))
    refine own_st (fun u_ k_ => XS.aload X321.here hx rfl (hb hby at_46) rfl rfl k_) ?_
    show own_Go p e below _ (T321.setTop (mkF m 48 #[.val (.int n), .val (.int x1), .val (.int y1), .val (.int z1), .val (.int (0 : Int32)), .val (.ref r_302), .val (.ref r_309), .val (.ref r_316), .val (.ref r_323), .unset, .unset, .unset] [(.ref r_309)]))
    have O329 : Old Z n0 T321.heap := O322.keep K321 all0
    obtain ⟨T328, v328, L328, X328, hQ328, st328⟩ := own_callS X321 hx hZ (y := (⟨"com/example/tasdik/tasdik/core/cbor/CborValue", "byteString", "([B)Lcom/example/tasdik/tasdik/core/cbor/CborValue;"⟩ : MethodName)) hown (hw _ (List.mem_of_getElem? (i := 5) rfl)) (hw _ (List.mem_of_getElem? (i := 6) rfl)) (hw _ (List.mem_of_getElem? (i := 7) rfl)) (hw _ (List.mem_of_getElem? (i := 8) rfl)) own_lm_134 (rmB l Z a0 hw [] w0 wl wp mr hS r_309 T321.heap n0 O329 ) rfl own_pd_273 (argsL := [(.ref r_309)]) (rest := []) rfl rfl (g := (mkF m 48 #[.val (.int n), .val (.int x1), .val (.int y1), .val (.int z1), .val (.int (0 : Int32)), .val (.ref r_302), .val (.ref r_309), .val (.ref r_316), .val (.ref r_323), .unset, .unset, .unset] [(.ref r_309)])) rfl (by rw [hml]; rfl) rfl (hb hby at_48) (W := 0) rfl (by decide) (by decide) (by decide) (by decide)
    obtain ⟨r_330, rfl, M328, K328, z331, F332, F333, F334⟩ := hQ328
    have N328 := Fr.app N321 M328
    refine own_st (fun u_ k_ => st328 u_ k_) ?_
    show own_Go p e below _ (T328.setTop (mkF m 51 #[.val (.int n), .val (.int x1), .val (.int y1), .val (.int z1), .val (.int (0 : Int32)), .val (.ref r_302), .val (.ref r_309), .val (.ref r_316), .val (.ref r_323), .unset, .unset, .unset] [(.ref r_330)]))
    refine own_st (fun u_ k_ => XS.astore X328.here hx rfl (hb hby at_51) rfl rfl (l' := #[.val (.int n), .val (.int x1), .val (.int y1), .val (.int z1), .val (.int (0 : Int32)), .val (.ref r_302), .val (.ref r_309), .val (.ref r_316), .val (.ref r_323), .val (.ref r_330), .unset, .unset]) rfl k_) ?_
    show own_Go p e below _ (T328.setTop (mkF m 53 #[.val (.int n), .val (.int x1), .val (.int y1), .val (.int z1), .val (.int (0 : Int32)), .val (.ref r_302), .val (.ref r_309), .val (.ref r_316), .val (.ref r_323), .val (.ref r_330), .unset, .unset] []))
    refine own_st (fun u_ k_ => XS.aload X328.here hx rfl (hb hby at_53) rfl rfl k_) ?_
    show own_Go p e below _ (T328.setTop (mkF m 55 #[.val (.int n), .val (.int x1), .val (.int y1), .val (.int z1), .val (.int (0 : Int32)), .val (.ref r_302), .val (.ref r_309), .val (.ref r_316), .val (.ref r_323), .val (.ref r_330), .unset, .unset] [(.ref r_316)]))
    have O336 : Old Z n0 T328.heap := O329.keep K328 all0
    obtain ⟨T335, v335, L335, X335, hQ335, st335⟩ := own_callS X328 hx hZ (y := (⟨"com/example/tasdik/tasdik/core/cbor/CborValue", "byteString", "([B)Lcom/example/tasdik/tasdik/core/cbor/CborValue;"⟩ : MethodName)) hown (hw _ (List.mem_of_getElem? (i := 5) rfl)) (hw _ (List.mem_of_getElem? (i := 6) rfl)) (hw _ (List.mem_of_getElem? (i := 7) rfl)) (hw _ (List.mem_of_getElem? (i := 8) rfl)) own_lm_134 (rmB l Z a0 hw [] w0 wl wp mr hS r_316 T328.heap n0 O336 ) rfl own_pd_273 (argsL := [(.ref r_316)]) (rest := []) rfl rfl (g := (mkF m 55 #[.val (.int n), .val (.int x1), .val (.int y1), .val (.int z1), .val (.int (0 : Int32)), .val (.ref r_302), .val (.ref r_309), .val (.ref r_316), .val (.ref r_323), .val (.ref r_330), .unset, .unset] [(.ref r_316)])) rfl (by rw [hml]; rfl) rfl (hb hby at_55) (W := 0) rfl (by decide) (by decide) (by decide) (by decide)
    obtain ⟨r_337, rfl, M335, K335, z338, F339, F340, F341⟩ := hQ335
    have N335 := Fr.app N328 M335
    refine own_st (fun u_ k_ => st335 u_ k_) ?_
    show own_Go p e below _ (T335.setTop (mkF m 58 #[.val (.int n), .val (.int x1), .val (.int y1), .val (.int z1), .val (.int (0 : Int32)), .val (.ref r_302), .val (.ref r_309), .val (.ref r_316), .val (.ref r_323), .val (.ref r_330), .unset, .unset] [(.ref r_337)]))
    refine own_st (fun u_ k_ => XS.astore X335.here hx rfl (hb hby at_58) rfl rfl (l' := #[.val (.int n), .val (.int x1), .val (.int y1), .val (.int z1), .val (.int (0 : Int32)), .val (.ref r_302), .val (.ref r_309), .val (.ref r_316), .val (.ref r_323), .val (.ref r_330), .val (.ref r_337), .unset]) rfl k_) ?_
    show own_Go p e below _ (T335.setTop (mkF m 60 #[.val (.int n), .val (.int x1), .val (.int y1), .val (.int z1), .val (.int (0 : Int32)), .val (.ref r_302), .val (.ref r_309), .val (.ref r_316), .val (.ref r_323), .val (.ref r_330), .val (.ref r_337), .unset] []))
    refine own_st (fun u_ k_ => XS.aload X335.here hx rfl (hb hby at_60) rfl rfl k_) ?_
    show own_Go p e below _ (T335.setTop (mkF m 62 #[.val (.int n), .val (.int x1), .val (.int y1), .val (.int z1), .val (.int (0 : Int32)), .val (.ref r_302), .val (.ref r_309), .val (.ref r_316), .val (.ref r_323), .val (.ref r_330), .val (.ref r_337), .unset] [(.ref r_323)]))
    have F342 : Fld Z T335.heap r_323 "com/example/tasdik/tasdik/core/cbor/CborValue" "type" "Lcom/example/tasdik/tasdik/core/cbor/CborValue$Type;" (.ref w0) := ((F326.keep K328 nin0).keep K335 nin0)
    have O344 : Old Z n0 T335.heap := O336.keep K335 all0
    have F345 : Exa Z T335.heap r_323 "com/example/tasdik/tasdik/core/cbor/CborValue" := ((F325.keep K328).keep K335)
    obtain ⟨T343, v343, L343, X343, hQ343, st343⟩ := own_callV X335 hx hZ (y := (⟨"com/example/tasdik/tasdik/core/cbor/CborValue", "type", "()Lcom/example/tasdik/tasdik/core/cbor/CborValue$Type;"⟩ : MethodName)) (z := (⟨"com/example/tasdik/tasdik/core/cbor/CborValue", "type", "()Lcom/example/tasdik/tasdik/core/cbor/CborValue$Type;"⟩ : MethodName)) hown (hw _ (List.mem_of_getElem? (i := 45) rfl)) (hw _ (List.mem_of_getElem? (i := 46) rfl)) (notFace_of_selects (args := #[]) (mvT hZ (hw _ (List.mem_of_getElem? (i := 48) rfl)))) (hw _ (List.mem_of_getElem? (i := 48) rfl)) (hw _ (List.mem_of_getElem? (i := 47) rfl)) (hw _ (List.mem_of_getElem? (i := 7) rfl)) (hw _ (List.mem_of_getElem? (i := 49) rfl)) own_lm_134 (rmT l Z a0 hw [] w0 wl wp mr hS r_323 w0 T335.heap n0 O344 F342) rfl F345 own_pd_274 (argsL := []) (rest := []) rfl rfl (g := (mkF m 62 #[.val (.int n), .val (.int x1), .val (.int y1), .val (.int z1), .val (.int (0 : Int32)), .val (.ref r_302), .val (.ref r_309), .val (.ref r_316), .val (.ref r_323), .val (.ref r_330), .val (.ref r_337), .unset] [(.ref r_323)])) rfl (by rw [hml]; rfl) rfl (hb hby at_62) (W := 0) rfl (by decide) (by decide) (by decide) (by decide)
    obtain ⟨rfl, M343, e343⟩ := hQ343
    have N343 := Fr.app N335 M343
    refine own_st (fun u_ k_ => st343 u_ k_) ?_
    show own_Go p e below _ (T343.setTop (mkF m 65 #[.val (.int n), .val (.int x1), .val (.int y1), .val (.int z1), .val (.int (0 : Int32)), .val (.ref r_302), .val (.ref r_309), .val (.ref r_316), .val (.ref r_323), .val (.ref r_330), .val (.ref r_337), .unset] [(.ref w0)]))
    have F346 : Sta Z T335.heap "com/example/tasdik/tasdik/core/cbor/CborValue$Type" "BYTE_STRING" "Lcom/example/tasdik/tasdik/core/cbor/CborValue$Type;" (.ref w0) := Sta.ext O344.2 hS.1
    obtain ⟨T347, X347, e347, st347⟩ := getS2 X343 hx hZ hown (host := "") (Or.inl (hw _ (List.mem_of_getElem? (i := 50) rfl))) Via.refl e343 F346 (g := (mkF m 65 #[.val (.int n), .val (.int x1), .val (.int y1), .val (.int z1), .val (.int (0 : Int32)), .val (.ref r_302), .val (.ref r_309), .val (.ref r_316), .val (.ref r_323), .val (.ref r_330), .val (.ref r_337), .unset] [(.ref w0)])) rfl (hb hby at_65)
    refine own_st (fun u_ k_ => st347 u_ k_) ?_
    show own_Go p e below _ (T347.setTop (mkF m 68 #[.val (.int n), .val (.int x1), .val (.int y1), .val (.int z1), .val (.int (0 : Int32)), .val (.ref r_302), .val (.ref r_309), .val (.ref r_316), .val (.ref r_323), .val (.ref r_330), .val (.ref r_337), .unset] [(.ref w0), (.ref w0)]))
    refine own_st (fun u_ k_ => XT.acmpYes X347.here hx rfl (pc0 := 68) (pc' := 73) rfl (hb hby at_68) rfl rfl rfl (XT.aa_eq_t rfl) (by decide) (by decide) k_) ?_
    show own_Go p e below _ (T347.setTop (mkF m 73 #[.val (.int n), .val (.int x1), .val (.int y1), .val (.int z1), .val (.int (0 : Int32)), .val (.ref r_302), .val (.ref r_309), .val (.ref r_316), .val (.ref r_323), .val (.ref r_330), .val (.ref r_337), .unset] []))
    refine own_st (fun u_ k_ => XS.aload X347.here hx rfl (hb hby at_73) rfl rfl k_) ?_
    show own_Go p e below _ (T347.setTop (mkF m 75 #[.val (.int n), .val (.int x1), .val (.int y1), .val (.int z1), .val (.int (0 : Int32)), .val (.ref r_302), .val (.ref r_309), .val (.ref r_316), .val (.ref r_323), .val (.ref r_330), .val (.ref r_337), .unset] [(.ref r_323)]))
    have F348 : Fld Z T335.heap r_323 "com/example/tasdik/tasdik/core/cbor/CborValue" "bytes" "[B" (.ref r_302) := ((F327.keep K328 nin0).keep K335 nin0)
    have F349 : Arv Z T335.heap r_302 kr_303 .byte (0 : Int32) [] (.int (0 : Int32)) := (((((F305.keep K307 nin0).keep K314 nin0).keep K321 nin0).keep K328 nin0).keep K335 nin0)
    have F350 : Exa Z T335.heap r_302 "[B" := (((((F306.keep K307).keep K314).keep K321).keep K328).keep K335)
    obtain ⟨T351, v351, L351, X351, hQ351, st351⟩ := own_callV X347 hx hZ (y := (⟨"com/example/tasdik/tasdik/core/cbor/CborValue", "bytes", "()[B"⟩ : MethodName)) (z := (⟨"com/example/tasdik/tasdik/core/cbor/CborValue", "bytes", "()[B"⟩ : MethodName)) hown (hw _ (List.mem_of_getElem? (i := 51) rfl)) (hw _ (List.mem_of_getElem? (i := 52) rfl)) (notFace_of_selects (args := #[]) (mvT hZ (hw _ (List.mem_of_getElem? (i := 54) rfl)))) (hw _ (List.mem_of_getElem? (i := 54) rfl)) (hw _ (List.mem_of_getElem? (i := 53) rfl)) (hw _ (List.mem_of_getElem? (i := 7) rfl)) (hw _ (List.mem_of_getElem? (i := 55) rfl)) own_lm_134 (rmY0 l Z a0 hw [] w0 wl wp mr hS r_323 r_302 kr_303 T335.heap n0 O344 F345 F342 F348 F349 F350) e347 F345 own_pd_275 (argsL := []) (rest := []) rfl rfl (g := (mkF m 75 #[.val (.int n), .val (.int x1), .val (.int y1), .val (.int z1), .val (.int (0 : Int32)), .val (.ref r_302), .val (.ref r_309), .val (.ref r_316), .val (.ref r_323), .val (.ref r_330), .val (.ref r_337), .unset] [(.ref r_323)])) rfl (by rw [hml]; rfl) rfl (hb hby at_75) (W := 0) rfl (by decide) (by decide) (by decide) (by decide)
    obtain ⟨r_352, kr_353, rfl, M351, K351, z354, F355, F356⟩ := hQ351
    have N351 := Fr.app N343 M351
    refine own_st (fun u_ k_ => st351 u_ k_) ?_
    show own_Go p e below _ (T351.setTop (mkF m 78 #[.val (.int n), .val (.int x1), .val (.int y1), .val (.int z1), .val (.int (0 : Int32)), .val (.ref r_302), .val (.ref r_309), .val (.ref r_316), .val (.ref r_323), .val (.ref r_330), .val (.ref r_337), .unset] [(.ref r_352)]))
    refine own_st (fun u_ k_ => XS.astore X351.here hx rfl (hb hby at_78) rfl rfl (l' := #[.val (.int n), .val (.int x1), .val (.int y1), .val (.int z1), .val (.int (0 : Int32)), .val (.ref r_302), .val (.ref r_309), .val (.ref r_316), .val (.ref r_323), .val (.ref r_330), .val (.ref r_337), .val (.ref r_352)]) rfl k_) ?_
    show own_Go p e below _ (T351.setTop (mkF m 80 #[.val (.int n), .val (.int x1), .val (.int y1), .val (.int z1), .val (.int (0 : Int32)), .val (.ref r_302), .val (.ref r_309), .val (.ref r_316), .val (.ref r_323), .val (.ref r_330), .val (.ref r_337), .val (.ref r_352)] []))
    refine own_st (fun u_ k_ => XS.aload X351.here hx rfl (hb hby at_80) rfl rfl k_) ?_
    show own_Go p e below _ (T351.setTop (mkF m 82 #[.val (.int n), .val (.int x1), .val (.int y1), .val (.int z1), .val (.int (0 : Int32)), .val (.ref r_302), .val (.ref r_309), .val (.ref r_316), .val (.ref r_323), .val (.ref r_330), .val (.ref r_337), .val (.ref r_352)] [(.ref r_352)]))
    obtain ⟨cl357, Ar357, -, S357, N357, -, -⟩ := id F355
    refine own_st (X351.arraylength hx Ar357.1 (State.isArrayOf_alike hZ.alike Ar357.2.1) (g := (mkF m 82 #[.val (.int n), .val (.int x1), .val (.int y1), .val (.int z1), .val (.int (0 : Int32)), .val (.ref r_302), .val (.ref r_309), .val (.ref r_316), .val (.ref r_323), .val (.ref r_330), .val (.ref r_337), .val (.ref r_352)] [(.ref r_352)])) rfl rfl (hb hby at_82)) ?_
    rw [len_of S357 N357]
    show own_Go p e below _ (T351.setTop (mkF m 83 #[.val (.int n), .val (.int x1), .val (.int y1), .val (.int z1), .val (.int (0 : Int32)), .val (.ref r_302), .val (.ref r_309), .val (.ref r_316), .val (.ref r_323), .val (.ref r_330), .val (.ref r_337), .val (.ref r_352)] [(.int (0 : Int32))]))
    refine own_st (fun u_ k_ => XS.iload X351.here hx rfl (hb hby at_83) rfl k_) ?_
    show own_Go p e below _ (T351.setTop (mkF m 85 #[.val (.int n), .val (.int x1), .val (.int y1), .val (.int z1), .val (.int (0 : Int32)), .val (.ref r_302), .val (.ref r_309), .val (.ref r_316), .val (.ref r_323), .val (.ref r_330), .val (.ref r_337), .val (.ref r_352)] [(.int (0 : Int32)), (.int (0 : Int32))]))
    refine own_st (fun u_ k_ => XS.icmpYes X351.here hx rfl (pc0 := 85) (pc' := 90) rfl (hb hby at_85) rfl (XT.ii_eq_t (by decide)) (by decide) (by decide) k_) ?_
    show own_Go p e below _ (T351.setTop (mkF m 90 #[.val (.int n), .val (.int x1), .val (.int y1), .val (.int z1), .val (.int (0 : Int32)), .val (.ref r_302), .val (.ref r_309), .val (.ref r_316), .val (.ref r_323), .val (.ref r_330), .val (.ref r_337), .val (.ref r_352)] []))
    refine own_st (fun u_ k_ => XS.iload X351.here hx rfl (hb hby at_90) rfl k_) ?_
    show own_Go p e below _ (T351.setTop (mkF m 92 #[.val (.int n), .val (.int x1), .val (.int y1), .val (.int z1), .val (.int (0 : Int32)), .val (.ref r_302), .val (.ref r_309), .val (.ref r_316), .val (.ref r_323), .val (.ref r_330), .val (.ref r_337), .val (.ref r_352)] [(.int (0 : Int32))]))
    refine own_st (fun u_ k_ => XS.ifYes X351.here hx rfl (pc0 := 92) (pc' := 106) rfl (hb hby at_92) rfl (XT.i0_le_t (by decide)) (by decide) (by decide) k_) ?_
    show own_Go p e below _ (T351.setTop (mkF m 106 #[.val (.int n), .val (.int x1), .val (.int y1), .val (.int z1), .val (.int (0 : Int32)), .val (.ref r_302), .val (.ref r_309), .val (.ref r_316), .val (.ref r_323), .val (.ref r_330), .val (.ref r_337), .val (.ref r_352)] []))
    refine own_st (fun u_ k_ => XS.iload X351.here hx rfl (hb hby at_106) rfl k_) ?_
    show own_Go p e below _ (T351.setTop (mkF m 108 #[.val (.int n), .val (.int x1), .val (.int y1), .val (.int z1), .val (.int (0 : Int32)), .val (.ref r_302), .val (.ref r_309), .val (.ref r_316), .val (.ref r_323), .val (.ref r_330), .val (.ref r_337), .val (.ref r_352)] [(.int (0 : Int32))]))
    refine own_st (fun u_ k_ => XS.iconst X351.here hx rfl (hb hby at_108) k_) ?_
    show own_Go p e below _ (T351.setTop (mkF m 109 #[.val (.int n), .val (.int x1), .val (.int y1), .val (.int z1), .val (.int (0 : Int32)), .val (.ref r_302), .val (.ref r_309), .val (.ref r_316), .val (.ref r_323), .val (.ref r_330), .val (.ref r_337), .val (.ref r_352)] [(.int (1 : Int32)), (.int (0 : Int32))]))
    refine own_st (fun u_ k_ => XS.icmpYes X351.here hx rfl (pc0 := 109) (pc' := 123) rfl (hb hby at_109) rfl (XT.ii_le_t (by decide)) (by decide) (by decide) k_) ?_
    show own_Go p e below _ (T351.setTop (mkF m 123 #[.val (.int n), .val (.int x1), .val (.int y1), .val (.int z1), .val (.int (0 : Int32)), .val (.ref r_302), .val (.ref r_309), .val (.ref r_316), .val (.ref r_323), .val (.ref r_330), .val (.ref r_337), .val (.ref r_352)] []))
    refine own_st (fun u_ k_ => XS.iload X351.here hx rfl (hb hby at_123) rfl k_) ?_
    show own_Go p e below _ (T351.setTop (mkF m 125 #[.val (.int n), .val (.int x1), .val (.int y1), .val (.int z1), .val (.int (0 : Int32)), .val (.ref r_302), .val (.ref r_309), .val (.ref r_316), .val (.ref r_323), .val (.ref r_330), .val (.ref r_337), .val (.ref r_352)] [(.int (0 : Int32))]))
    refine own_st (fun u_ k_ => XS.iconst X351.here hx rfl (hb hby at_125) k_) ?_
    show own_Go p e below _ (T351.setTop (mkF m 126 #[.val (.int n), .val (.int x1), .val (.int y1), .val (.int z1), .val (.int (0 : Int32)), .val (.ref r_302), .val (.ref r_309), .val (.ref r_316), .val (.ref r_323), .val (.ref r_330), .val (.ref r_337), .val (.ref r_352)] [(.int (2 : Int32)), (.int (0 : Int32))]))
    refine own_st (fun u_ k_ => XS.icmpYes X351.here hx rfl (pc0 := 126) (pc' := 140) rfl (hb hby at_126) rfl (XT.ii_le_t (by decide)) (by decide) (by decide) k_) ?_
    show own_Go p e below _ (T351.setTop (mkF m 140 #[.val (.int n), .val (.int x1), .val (.int y1), .val (.int z1), .val (.int (0 : Int32)), .val (.ref r_302), .val (.ref r_309), .val (.ref r_316), .val (.ref r_323), .val (.ref r_330), .val (.ref r_337), .val (.ref r_352)] []))
    refine own_st (fun u_ k_ => XS.aload X351.here hx rfl (hb hby at_140) rfl rfl k_) ?_
    show own_Go p e below _ (T351.setTop (mkF m 142 #[.val (.int n), .val (.int x1), .val (.int y1), .val (.int z1), .val (.int (0 : Int32)), .val (.ref r_302), .val (.ref r_309), .val (.ref r_316), .val (.ref r_323), .val (.ref r_330), .val (.ref r_337), .val (.ref r_352)] [(.ref r_323)]))
    refine own_st (fun u_ k_ => XS.aload X351.here hx rfl (hb hby at_142) rfl rfl k_) ?_
    show own_Go p e below _ (T351.setTop (mkF m 144 #[.val (.int n), .val (.int x1), .val (.int y1), .val (.int z1), .val (.int (0 : Int32)), .val (.ref r_302), .val (.ref r_309), .val (.ref r_316), .val (.ref r_323), .val (.ref r_330), .val (.ref r_337), .val (.ref r_352)] [(.ref r_330), (.ref r_323)]))
    have F358 : Exa Z T351.heap r_323 "com/example/tasdik/tasdik/core/cbor/CborValue" := (F345.keep K351)
    have F359 : Exa Z T351.heap r_330 "com/example/tasdik/tasdik/core/cbor/CborValue" := ((F332.keep K335).keep K351)
    have F360 : Fld Z T351.heap r_323 "com/example/tasdik/tasdik/core/cbor/CborValue" "type" "Lcom/example/tasdik/tasdik/core/cbor/CborValue$Type;" (.ref w0) := (F342.keep K351 nin0)
    have F361 : Fld Z T351.heap r_330 "com/example/tasdik/tasdik/core/cbor/CborValue" "type" "Lcom/example/tasdik/tasdik/core/cbor/CborValue$Type;" (.ref w0) := ((F333.keep K335 nin0).keep K351 nin0)
    have F362 : Fld Z T351.heap r_323 "com/example/tasdik/tasdik/core/cbor/CborValue" "bytes" "[B" (.ref r_302) := (F348.keep K351 nin0)
    have F363 : Fld Z T351.heap r_330 "com/example/tasdik/tasdik/core/cbor/CborValue" "bytes" "[B" (.ref r_309) := ((F334.keep K335 nin0).keep K351 nin0)
    have F364 : Arv Z T351.heap r_302 kr_303 .byte (0 : Int32) [] (.int (0 : Int32)) := (F349.keep K351 nin0)
    have F365 : Arv Z T351.heap r_309 kr_310 .byte (0 : Int32) [] (.int (0 : Int32)) := (((((F312.keep K314 nin0).keep K321 nin0).keep K328 nin0).keep K335 nin0).keep K351 nin0)
    have ne366 : r_302 ≠ r_309 := (Nat.ne_of_lt (Nat.lt_of_lt_of_le F305.lt z311))
    have O368 : Old Z n0 T351.heap := O344.keep K351 all0
    obtain ⟨T367, v367, L367, X367, hQ367, st367⟩ := own_callV X351 hx hZ (y := (⟨"com/example/tasdik/tasdik/core/cbor/CborValue", "equals", "(Ljava/lang/Object;)Z"⟩ : MethodName)) (z := (⟨"com/example/tasdik/tasdik/core/cbor/CborValue", "equals", "(Ljava/lang/Object;)Z"⟩ : MethodName)) hown (hw _ (List.mem_of_getElem? (i := 69) rfl)) (hw _ (List.mem_of_getElem? (i := 70) rfl)) (notFace_of_selects (args := #[]) (mvT hZ (hw _ (List.mem_of_getElem? (i := 72) rfl)))) (hw _ (List.mem_of_getElem? (i := 72) rfl)) (hw _ (List.mem_of_getElem? (i := 71) rfl)) (hw _ (List.mem_of_getElem? (i := 7) rfl)) (hw _ (List.mem_of_getElem? (i := 73) rfl)) own_lm_134 (rmE0_0 l Z a0 hw [] w0 wl wp mr hS r_323 r_330 r_302 r_309 kr_303 kr_310 T351.heap n0 O368 F358 F359 F360 F361 F362 F363 F364 F365 ne366) rfl F358 own_pd_276 (argsL := [(.ref r_330)]) (rest := []) rfl rfl (g := (mkF m 144 #[.val (.int n), .val (.int x1), .val (.int y1), .val (.int z1), .val (.int (0 : Int32)), .val (.ref r_302), .val (.ref r_309), .val (.ref r_316), .val (.ref r_323), .val (.ref r_330), .val (.ref r_337), .val (.ref r_352)] [(.ref r_330), (.ref r_323)])) rfl (by rw [hml]; rfl) rfl (hb hby at_144) (W := 0) rfl (by decide) (by decide) (by decide) (by decide)
    obtain ⟨rfl, M367, e367⟩ := hQ367
    have N367 := Fr.app N351 M367
    refine own_st (fun u_ k_ => st367 u_ k_) ?_
    show own_Go p e below _ (T367.setTop (mkF m 147 #[.val (.int n), .val (.int x1), .val (.int y1), .val (.int z1), .val (.int (0 : Int32)), .val (.ref r_302), .val (.ref r_309), .val (.ref r_316), .val (.ref r_323), .val (.ref r_330), .val (.ref r_337), .val (.ref r_352)] [(.int (1 : Int32))]))
    refine own_st (fun u_ k_ => XS.ifNo X367.here hx rfl (hb hby at_147) rfl (XT.i0_eq_f (by decide)) k_) ?_
    show own_Go p e below _ (T367.setTop (mkF m 150 #[.val (.int n), .val (.int x1), .val (.int y1), .val (.int z1), .val (.int (0 : Int32)), .val (.ref r_302), .val (.ref r_309), .val (.ref r_316), .val (.ref r_323), .val (.ref r_330), .val (.ref r_337), .val (.ref r_352)] []))
    refine own_st (fun u_ k_ => XS.aload X367.here hx rfl (hb hby at_150) rfl rfl k_) ?_
    show own_Go p e below _ (T367.setTop (mkF m 152 #[.val (.int n), .val (.int x1), .val (.int y1), .val (.int z1), .val (.int (0 : Int32)), .val (.ref r_302), .val (.ref r_309), .val (.ref r_316), .val (.ref r_323), .val (.ref r_330), .val (.ref r_337), .val (.ref r_352)] [(.ref r_323)]))
    refine own_st (fun u_ k_ => XS.aload X367.here hx rfl (hb hby at_152) rfl rfl k_) ?_
    show own_Go p e below _ (T367.setTop (mkF m 154 #[.val (.int n), .val (.int x1), .val (.int y1), .val (.int z1), .val (.int (0 : Int32)), .val (.ref r_302), .val (.ref r_309), .val (.ref r_316), .val (.ref r_323), .val (.ref r_330), .val (.ref r_337), .val (.ref r_352)] [(.ref r_337), (.ref r_323)]))
    have F369 : Exa Z T351.heap r_337 "com/example/tasdik/tasdik/core/cbor/CborValue" := (F339.keep K351)
    have F370 : Fld Z T351.heap r_337 "com/example/tasdik/tasdik/core/cbor/CborValue" "type" "Lcom/example/tasdik/tasdik/core/cbor/CborValue$Type;" (.ref w0) := (F340.keep K351 nin0)
    have F371 : Fld Z T351.heap r_337 "com/example/tasdik/tasdik/core/cbor/CborValue" "bytes" "[B" (.ref r_316) := (F341.keep K351 nin0)
    have F372 : Arv Z T351.heap r_316 kr_317 .byte (1 : Int32) [(.int (x1.toInt8.toInt32))] (.int (0 : Int32)) := ((((F319.keep K321 nin0).keep K328 nin0).keep K335 nin0).keep K351 nin0)
    have ne373 : r_302 ≠ r_316 := (Nat.ne_of_lt (Nat.lt_of_lt_of_le (Nat.lt_of_lt_of_le F305.lt K307.1) z318))
    obtain ⟨T374, v374, L374, X374, hQ374, st374⟩ := own_callV X367 hx hZ (y := (⟨"com/example/tasdik/tasdik/core/cbor/CborValue", "equals", "(Ljava/lang/Object;)Z"⟩ : MethodName)) (z := (⟨"com/example/tasdik/tasdik/core/cbor/CborValue", "equals", "(Ljava/lang/Object;)Z"⟩ : MethodName)) hown (hw _ (List.mem_of_getElem? (i := 69) rfl)) (hw _ (List.mem_of_getElem? (i := 70) rfl)) (notFace_of_selects (args := #[]) (mvT hZ (hw _ (List.mem_of_getElem? (i := 72) rfl)))) (hw _ (List.mem_of_getElem? (i := 72) rfl)) (hw _ (List.mem_of_getElem? (i := 71) rfl)) (hw _ (List.mem_of_getElem? (i := 7) rfl)) (hw _ (List.mem_of_getElem? (i := 73) rfl)) own_lm_134 (rmE0_1 l Z a0 hw [] w0 wl wp mr hS r_323 r_337 r_302 r_316 kr_303 kr_317 (x1.toInt8.toInt32) T351.heap n0 O368 F358 F369 F360 F370 F362 F371 F364 F372 ne373) e367 F358 own_pd_276 (argsL := [(.ref r_337)]) (rest := []) rfl rfl (g := (mkF m 154 #[.val (.int n), .val (.int x1), .val (.int y1), .val (.int z1), .val (.int (0 : Int32)), .val (.ref r_302), .val (.ref r_309), .val (.ref r_316), .val (.ref r_323), .val (.ref r_330), .val (.ref r_337), .val (.ref r_352)] [(.ref r_337), (.ref r_323)])) rfl (by rw [hml]; rfl) rfl (hb hby at_154) (W := 0) rfl (by decide) (by decide) (by decide) (by decide)
    obtain ⟨rfl, M374, e374⟩ := hQ374
    have N374 := Fr.app N367 M374
    refine own_st (fun u_ k_ => st374 u_ k_) ?_
    show own_Go p e below _ (T374.setTop (mkF m 157 #[.val (.int n), .val (.int x1), .val (.int y1), .val (.int z1), .val (.int (0 : Int32)), .val (.ref r_302), .val (.ref r_309), .val (.ref r_316), .val (.ref r_323), .val (.ref r_330), .val (.ref r_337), .val (.ref r_352)] [(.int (0 : Int32))]))
    refine own_st (fun u_ k_ => XS.ifNo X374.here hx rfl (hb hby at_157) rfl (XT.i0_ne_f (by decide)) k_) ?_
    show own_Go p e below _ (T374.setTop (mkF m 160 #[.val (.int n), .val (.int x1), .val (.int y1), .val (.int z1), .val (.int (0 : Int32)), .val (.ref r_302), .val (.ref r_309), .val (.ref r_316), .val (.ref r_323), .val (.ref r_330), .val (.ref r_337), .val (.ref r_352)] []))
    refine own_st (fun u_ k_ => XS.iconst X374.here hx rfl (hb hby at_160) k_) ?_
    show own_Go p e below _ (T374.setTop (mkF m 161 #[.val (.int n), .val (.int x1), .val (.int y1), .val (.int z1), .val (.int (0 : Int32)), .val (.ref r_302), .val (.ref r_309), .val (.ref r_316), .val (.ref r_323), .val (.ref r_330), .val (.ref r_337), .val (.ref r_352)] [(.int (1 : Int32))]))
    refine own_st (fun u_ k_ => XS.goto X374.here hx rfl (pc0 := 161) (pc' := 165) rfl (hb hby at_161) (by decide) (by decide) k_) ?_
    show own_Go p e below _ (T374.setTop (mkF m 165 #[.val (.int n), .val (.int x1), .val (.int y1), .val (.int z1), .val (.int (0 : Int32)), .val (.ref r_302), .val (.ref r_309), .val (.ref r_316), .val (.ref r_323), .val (.ref r_330), .val (.ref r_337), .val (.ref r_352)] [(.int (1 : Int32))]))
    have K375 : Keep h0 T301.heap [] := (Keep.refl h0 []).trans K301 all0
    have K376 : Keep h0 T307.heap [] := K375.trans K307 all0
    have K377 : Keep h0 T314.heap [] := K376.trans K314 all0
    have K378 : Keep h0 T321.heap [] := K377.trans K321 all0
    have K379 : Keep h0 T328.heap [] := K378.trans K328 all0
    have K380 : Keep h0 T335.heap [] := K379.trans K335 all0
    have K381 : Keep h0 T351.heap [] := K380.trans K351 all0
    exact own_retX X374 hx hlk hret rfl (Or.inl ⟨rfl, by simp, _, rfl⟩) (hb hby at_165) (by decide) (by decide) (show Qrm0 Z w0 wl wp mr n x1 y1 z1 h0 n0 (some (.int (1 : Int32))) T374.heap _ from (by rw [e374]; exact ⟨rfl, N374, K381⟩))
  · rw [hj]
    show own_Go p e below _ (s₁.setTop (mkF m 3 #[.val (.int n), .val (.int x1), .val (.int y1), .val (.int z1), .unset, .unset, .unset, .unset, .unset, .unset, .unset, .unset] [(.int (1 : Int32))]))
    refine own_st (fun u_ k_ => XS.istore X0.here hx rfl (hb hby at_3) rfl (l' := #[.val (.int n), .val (.int x1), .val (.int y1), .val (.int z1), .val (.int (1 : Int32)), .unset, .unset, .unset, .unset, .unset, .unset, .unset]) rfl k_) ?_
    show own_Go p e below _ (s₁.setTop (mkF m 5 #[.val (.int n), .val (.int x1), .val (.int y1), .val (.int z1), .val (.int (1 : Int32)), .unset, .unset, .unset, .unset, .unset, .unset, .unset] []))
    refine own_st (fun u_ k_ => XS.iload X0.here hx rfl (hb hby at_5) rfl k_) ?_
    show own_Go p e below _ (s₁.setTop (mkF m 7 #[.val (.int n), .val (.int x1), .val (.int y1), .val (.int z1), .val (.int (1 : Int32)), .unset, .unset, .unset, .unset, .unset, .unset, .unset] [(.int (1 : Int32))]))
    refine own_st (fun u_ k_ => XS.iloadN X0.here hx rfl (hb hby at_7) rfl k_) ?_
    show own_Go p e below _ (s₁.setTop (mkF m 8 #[.val (.int n), .val (.int x1), .val (.int y1), .val (.int z1), .val (.int (1 : Int32)), .unset, .unset, .unset, .unset, .unset, .unset, .unset] [(.int x1), (.int (1 : Int32))]))
    refine own_st (fun u_ k_ => XS.iloadN X0.here hx rfl (hb hby at_8) rfl k_) ?_
    show own_Go p e below _ (s₁.setTop (mkF m 9 #[.val (.int n), .val (.int x1), .val (.int y1), .val (.int z1), .val (.int (1 : Int32)), .unset, .unset, .unset, .unset, .unset, .unset, .unset] [(.int y1), (.int x1), (.int (1 : Int32))]))
    refine own_st (fun u_ k_ => XS.iloadN X0.here hx rfl (hb hby at_9) rfl k_) ?_
    show own_Go p e below _ (s₁.setTop (mkF m 10 #[.val (.int n), .val (.int x1), .val (.int y1), .val (.int z1), .val (.int (1 : Int32)), .unset, .unset, .unset, .unset, .unset, .unset, .unset] [(.int z1), (.int y1), (.int x1), (.int (1 : Int32))]))
    obtain ⟨T382, v382, L382, X382, hQ382, st382⟩ := own_callS X0 hx hZ (y := (⟨"com/example/tasdik/tasdik/core/cbor/CborValueByteStringPinLaw", "make", "(IIII)[B"⟩ : MethodName)) hown (hw _ (List.mem_of_getElem? (i := 0) rfl)) (hw _ (List.mem_of_getElem? (i := 1) rfl)) (hw _ (List.mem_of_getElem? (i := 2) rfl)) (hw _ (List.mem_of_getElem? (i := 3) rfl)) own_lm_271 (rmK1 l Z a0 hw [] w0 wl wp mr hS x1 y1 z1 h0 n0 O0 ) e0 own_pd_272 (argsL := [(.int (1 : Int32)), (.int x1), (.int y1), (.int z1)]) (rest := []) rfl rfl (g := (mkF m 10 #[.val (.int n), .val (.int x1), .val (.int y1), .val (.int z1), .val (.int (1 : Int32)), .unset, .unset, .unset, .unset, .unset, .unset, .unset] [(.int z1), (.int y1), (.int x1), (.int (1 : Int32))])) rfl (by rw [hml]; rfl) rfl (hb hby at_10) (W := 0) rfl (by decide) (by decide) (by decide) (by decide)
    obtain ⟨r_383, kr_384, rfl, M382, K382, z385, F386, F387⟩ := hQ382
    have N382 := Fr.app N0 M382
    refine own_st (fun u_ k_ => st382 u_ k_) ?_
    show own_Go p e below _ (T382.setTop (mkF m 13 #[.val (.int n), .val (.int x1), .val (.int y1), .val (.int z1), .val (.int (1 : Int32)), .unset, .unset, .unset, .unset, .unset, .unset, .unset] [(.ref r_383)]))
    refine own_st (fun u_ k_ => XS.astore X382.here hx rfl (hb hby at_13) rfl rfl (l' := #[.val (.int n), .val (.int x1), .val (.int y1), .val (.int z1), .val (.int (1 : Int32)), .val (.ref r_383), .unset, .unset, .unset, .unset, .unset, .unset]) rfl k_) ?_
    show own_Go p e below _ (T382.setTop (mkF m 15 #[.val (.int n), .val (.int x1), .val (.int y1), .val (.int z1), .val (.int (1 : Int32)), .val (.ref r_383), .unset, .unset, .unset, .unset, .unset, .unset] []))
    refine own_st (fun u_ k_ => XS.iload X382.here hx rfl (hb hby at_15) rfl k_) ?_
    show own_Go p e below _ (T382.setTop (mkF m 17 #[.val (.int n), .val (.int x1), .val (.int y1), .val (.int z1), .val (.int (1 : Int32)), .val (.ref r_383), .unset, .unset, .unset, .unset, .unset, .unset] [(.int (1 : Int32))]))
    refine own_st (fun u_ k_ => XS.iloadN X382.here hx rfl (hb hby at_17) rfl k_) ?_
    show own_Go p e below _ (T382.setTop (mkF m 18 #[.val (.int n), .val (.int x1), .val (.int y1), .val (.int z1), .val (.int (1 : Int32)), .val (.ref r_383), .unset, .unset, .unset, .unset, .unset, .unset] [(.int x1), (.int (1 : Int32))]))
    refine own_st (fun u_ k_ => XS.iloadN X382.here hx rfl (hb hby at_18) rfl k_) ?_
    show own_Go p e below _ (T382.setTop (mkF m 19 #[.val (.int n), .val (.int x1), .val (.int y1), .val (.int z1), .val (.int (1 : Int32)), .val (.ref r_383), .unset, .unset, .unset, .unset, .unset, .unset] [(.int y1), (.int x1), (.int (1 : Int32))]))
    refine own_st (fun u_ k_ => XS.iloadN X382.here hx rfl (hb hby at_19) rfl k_) ?_
    show own_Go p e below _ (T382.setTop (mkF m 20 #[.val (.int n), .val (.int x1), .val (.int y1), .val (.int z1), .val (.int (1 : Int32)), .val (.ref r_383), .unset, .unset, .unset, .unset, .unset, .unset] [(.int z1), (.int y1), (.int x1), (.int (1 : Int32))]))
    have O389 : Old Z n0 T382.heap := O0.keep K382 all0
    obtain ⟨T388, v388, L388, X388, hQ388, st388⟩ := own_callS X382 hx hZ (y := (⟨"com/example/tasdik/tasdik/core/cbor/CborValueByteStringPinLaw", "make", "(IIII)[B"⟩ : MethodName)) hown (hw _ (List.mem_of_getElem? (i := 0) rfl)) (hw _ (List.mem_of_getElem? (i := 1) rfl)) (hw _ (List.mem_of_getElem? (i := 2) rfl)) (hw _ (List.mem_of_getElem? (i := 3) rfl)) own_lm_271 (rmK1 l Z a0 hw [] w0 wl wp mr hS x1 y1 z1 T382.heap n0 O389 ) rfl own_pd_272 (argsL := [(.int (1 : Int32)), (.int x1), (.int y1), (.int z1)]) (rest := []) rfl rfl (g := (mkF m 20 #[.val (.int n), .val (.int x1), .val (.int y1), .val (.int z1), .val (.int (1 : Int32)), .val (.ref r_383), .unset, .unset, .unset, .unset, .unset, .unset] [(.int z1), (.int y1), (.int x1), (.int (1 : Int32))])) rfl (by rw [hml]; rfl) rfl (hb hby at_20) (W := 0) rfl (by decide) (by decide) (by decide) (by decide)
    obtain ⟨r_390, kr_391, rfl, M388, K388, z392, F393, F394⟩ := hQ388
    have N388 := Fr.app N382 M388
    refine own_st (fun u_ k_ => st388 u_ k_) ?_
    show own_Go p e below _ (T388.setTop (mkF m 23 #[.val (.int n), .val (.int x1), .val (.int y1), .val (.int z1), .val (.int (1 : Int32)), .val (.ref r_383), .unset, .unset, .unset, .unset, .unset, .unset] [(.ref r_390)]))
    refine own_st (fun u_ k_ => XS.astore X388.here hx rfl (hb hby at_23) rfl rfl (l' := #[.val (.int n), .val (.int x1), .val (.int y1), .val (.int z1), .val (.int (1 : Int32)), .val (.ref r_383), .val (.ref r_390), .unset, .unset, .unset, .unset, .unset]) rfl k_) ?_
    show own_Go p e below _ (T388.setTop (mkF m 25 #[.val (.int n), .val (.int x1), .val (.int y1), .val (.int z1), .val (.int (1 : Int32)), .val (.ref r_383), .val (.ref r_390), .unset, .unset, .unset, .unset, .unset] []))
    refine own_st (fun u_ k_ => XS.iload X388.here hx rfl (hb hby at_25) rfl k_) ?_
    show own_Go p e below _ (T388.setTop (mkF m 27 #[.val (.int n), .val (.int x1), .val (.int y1), .val (.int z1), .val (.int (1 : Int32)), .val (.ref r_383), .val (.ref r_390), .unset, .unset, .unset, .unset, .unset] [(.int (1 : Int32))]))
    refine own_st (fun u_ k_ => XS.iconst X388.here hx rfl (hb hby at_27) k_) ?_
    show own_Go p e below _ (T388.setTop (mkF m 28 #[.val (.int n), .val (.int x1), .val (.int y1), .val (.int z1), .val (.int (1 : Int32)), .val (.ref r_383), .val (.ref r_390), .unset, .unset, .unset, .unset, .unset] [(.int (1 : Int32)), (.int (1 : Int32))]))
    refine own_st (fun u_ k_ => XS.iadd X388.here hx rfl (hb hby at_28) rfl k_) ?_
    show own_Go p e below _ (T388.setTop (mkF m 29 #[.val (.int n), .val (.int x1), .val (.int y1), .val (.int z1), .val (.int (1 : Int32)), .val (.ref r_383), .val (.ref r_390), .unset, .unset, .unset, .unset, .unset] [(.int (2 : Int32))]))
    refine own_st (fun u_ k_ => XS.iconst X388.here hx rfl (hb hby at_29) k_) ?_
    show own_Go p e below _ (T388.setTop (mkF m 30 #[.val (.int n), .val (.int x1), .val (.int y1), .val (.int z1), .val (.int (1 : Int32)), .val (.ref r_383), .val (.ref r_390), .unset, .unset, .unset, .unset, .unset] [(.int (3 : Int32)), (.int (2 : Int32))]))
    refine own_st (fun u_ k_ => XS.iand X388.here hx rfl (hb hby at_30) rfl k_) ?_
    show own_Go p e below _ (T388.setTop (mkF m 31 #[.val (.int n), .val (.int x1), .val (.int y1), .val (.int z1), .val (.int (1 : Int32)), .val (.ref r_383), .val (.ref r_390), .unset, .unset, .unset, .unset, .unset] [(.int (2 : Int32))]))
    refine own_st (fun u_ k_ => XS.iloadN X388.here hx rfl (hb hby at_31) rfl k_) ?_
    show own_Go p e below _ (T388.setTop (mkF m 32 #[.val (.int n), .val (.int x1), .val (.int y1), .val (.int z1), .val (.int (1 : Int32)), .val (.ref r_383), .val (.ref r_390), .unset, .unset, .unset, .unset, .unset] [(.int x1), (.int (2 : Int32))]))
    refine own_st (fun u_ k_ => XS.iloadN X388.here hx rfl (hb hby at_32) rfl k_) ?_
    show own_Go p e below _ (T388.setTop (mkF m 33 #[.val (.int n), .val (.int x1), .val (.int y1), .val (.int z1), .val (.int (1 : Int32)), .val (.ref r_383), .val (.ref r_390), .unset, .unset, .unset, .unset, .unset] [(.int y1), (.int x1), (.int (2 : Int32))]))
    refine own_st (fun u_ k_ => XS.iloadN X388.here hx rfl (hb hby at_33) rfl k_) ?_
    show own_Go p e below _ (T388.setTop (mkF m 34 #[.val (.int n), .val (.int x1), .val (.int y1), .val (.int z1), .val (.int (1 : Int32)), .val (.ref r_383), .val (.ref r_390), .unset, .unset, .unset, .unset, .unset] [(.int z1), (.int y1), (.int x1), (.int (2 : Int32))]))
    have O396 : Old Z n0 T388.heap := O389.keep K388 all0
    obtain ⟨T395, v395, L395, X395, hQ395, st395⟩ := own_callS X388 hx hZ (y := (⟨"com/example/tasdik/tasdik/core/cbor/CborValueByteStringPinLaw", "make", "(IIII)[B"⟩ : MethodName)) hown (hw _ (List.mem_of_getElem? (i := 0) rfl)) (hw _ (List.mem_of_getElem? (i := 1) rfl)) (hw _ (List.mem_of_getElem? (i := 2) rfl)) (hw _ (List.mem_of_getElem? (i := 3) rfl)) own_lm_271 (rmK2 l Z a0 hw [] w0 wl wp mr hS x1 y1 z1 T388.heap n0 O396 ) rfl own_pd_272 (argsL := [(.int (2 : Int32)), (.int x1), (.int y1), (.int z1)]) (rest := []) rfl rfl (g := (mkF m 34 #[.val (.int n), .val (.int x1), .val (.int y1), .val (.int z1), .val (.int (1 : Int32)), .val (.ref r_383), .val (.ref r_390), .unset, .unset, .unset, .unset, .unset] [(.int z1), (.int y1), (.int x1), (.int (2 : Int32))])) rfl (by rw [hml]; rfl) rfl (hb hby at_34) (W := 0) rfl (by decide) (by decide) (by decide) (by decide)
    obtain ⟨r_397, kr_398, rfl, M395, K395, z399, F400, F401⟩ := hQ395
    have N395 := Fr.app N388 M395
    refine own_st (fun u_ k_ => st395 u_ k_) ?_
    show own_Go p e below _ (T395.setTop (mkF m 37 #[.val (.int n), .val (.int x1), .val (.int y1), .val (.int z1), .val (.int (1 : Int32)), .val (.ref r_383), .val (.ref r_390), .unset, .unset, .unset, .unset, .unset] [(.ref r_397)]))
    refine own_st (fun u_ k_ => XS.astore X395.here hx rfl (hb hby at_37) rfl rfl (l' := #[.val (.int n), .val (.int x1), .val (.int y1), .val (.int z1), .val (.int (1 : Int32)), .val (.ref r_383), .val (.ref r_390), .val (.ref r_397), .unset, .unset, .unset, .unset]) rfl k_) ?_
    show own_Go p e below _ (T395.setTop (mkF m 39 #[.val (.int n), .val (.int x1), .val (.int y1), .val (.int z1), .val (.int (1 : Int32)), .val (.ref r_383), .val (.ref r_390), .val (.ref r_397), .unset, .unset, .unset, .unset] []))
    refine own_st (fun u_ k_ => XS.aload X395.here hx rfl (hb hby at_39) rfl rfl k_) ?_
    show own_Go p e below _ (T395.setTop (mkF m 41 #[.val (.int n), .val (.int x1), .val (.int y1), .val (.int z1), .val (.int (1 : Int32)), .val (.ref r_383), .val (.ref r_390), .val (.ref r_397), .unset, .unset, .unset, .unset] [(.ref r_383)]))
    have O403 : Old Z n0 T395.heap := O396.keep K395 all0
    obtain ⟨T402, v402, L402, X402, hQ402, st402⟩ := own_callS X395 hx hZ (y := (⟨"com/example/tasdik/tasdik/core/cbor/CborValue", "byteString", "([B)Lcom/example/tasdik/tasdik/core/cbor/CborValue;"⟩ : MethodName)) hown (hw _ (List.mem_of_getElem? (i := 5) rfl)) (hw _ (List.mem_of_getElem? (i := 6) rfl)) (hw _ (List.mem_of_getElem? (i := 7) rfl)) (hw _ (List.mem_of_getElem? (i := 8) rfl)) own_lm_134 (rmB l Z a0 hw [] w0 wl wp mr hS r_383 T395.heap n0 O403 ) rfl own_pd_273 (argsL := [(.ref r_383)]) (rest := []) rfl rfl (g := (mkF m 41 #[.val (.int n), .val (.int x1), .val (.int y1), .val (.int z1), .val (.int (1 : Int32)), .val (.ref r_383), .val (.ref r_390), .val (.ref r_397), .unset, .unset, .unset, .unset] [(.ref r_383)])) rfl (by rw [hml]; rfl) rfl (hb hby at_41) (W := 0) rfl (by decide) (by decide) (by decide) (by decide)
    obtain ⟨r_404, rfl, M402, K402, z405, F406, F407, F408⟩ := hQ402
    have N402 := Fr.app N395 M402
    refine own_st (fun u_ k_ => st402 u_ k_) ?_
    show own_Go p e below _ (T402.setTop (mkF m 44 #[.val (.int n), .val (.int x1), .val (.int y1), .val (.int z1), .val (.int (1 : Int32)), .val (.ref r_383), .val (.ref r_390), .val (.ref r_397), .unset, .unset, .unset, .unset] [(.ref r_404)]))
    refine own_st (fun u_ k_ => XS.astore X402.here hx rfl (hb hby at_44) rfl rfl (l' := #[.val (.int n), .val (.int x1), .val (.int y1), .val (.int z1), .val (.int (1 : Int32)), .val (.ref r_383), .val (.ref r_390), .val (.ref r_397), .val (.ref r_404), .unset, .unset, .unset]) rfl k_) ?_
    show own_Go p e below _ (T402.setTop (mkF m 46 #[.val (.int n), .val (.int x1), .val (.int y1), .val (.int z1), .val (.int (1 : Int32)), .val (.ref r_383), .val (.ref r_390), .val (.ref r_397), .val (.ref r_404), .unset, .unset, .unset] []))
    refine own_st (fun u_ k_ => XS.aload X402.here hx rfl (hb hby at_46) rfl rfl k_) ?_
    show own_Go p e below _ (T402.setTop (mkF m 48 #[.val (.int n), .val (.int x1), .val (.int y1), .val (.int z1), .val (.int (1 : Int32)), .val (.ref r_383), .val (.ref r_390), .val (.ref r_397), .val (.ref r_404), .unset, .unset, .unset] [(.ref r_390)]))
    have O410 : Old Z n0 T402.heap := O403.keep K402 all0
    obtain ⟨T409, v409, L409, X409, hQ409, st409⟩ := own_callS X402 hx hZ (y := (⟨"com/example/tasdik/tasdik/core/cbor/CborValue", "byteString", "([B)Lcom/example/tasdik/tasdik/core/cbor/CborValue;"⟩ : MethodName)) hown (hw _ (List.mem_of_getElem? (i := 5) rfl)) (hw _ (List.mem_of_getElem? (i := 6) rfl)) (hw _ (List.mem_of_getElem? (i := 7) rfl)) (hw _ (List.mem_of_getElem? (i := 8) rfl)) own_lm_134 (rmB l Z a0 hw [] w0 wl wp mr hS r_390 T402.heap n0 O410 ) rfl own_pd_273 (argsL := [(.ref r_390)]) (rest := []) rfl rfl (g := (mkF m 48 #[.val (.int n), .val (.int x1), .val (.int y1), .val (.int z1), .val (.int (1 : Int32)), .val (.ref r_383), .val (.ref r_390), .val (.ref r_397), .val (.ref r_404), .unset, .unset, .unset] [(.ref r_390)])) rfl (by rw [hml]; rfl) rfl (hb hby at_48) (W := 0) rfl (by decide) (by decide) (by decide) (by decide)
    obtain ⟨r_411, rfl, M409, K409, z412, F413, F414, F415⟩ := hQ409
    have N409 := Fr.app N402 M409
    refine own_st (fun u_ k_ => st409 u_ k_) ?_
    show own_Go p e below _ (T409.setTop (mkF m 51 #[.val (.int n), .val (.int x1), .val (.int y1), .val (.int z1), .val (.int (1 : Int32)), .val (.ref r_383), .val (.ref r_390), .val (.ref r_397), .val (.ref r_404), .unset, .unset, .unset] [(.ref r_411)]))
    refine own_st (fun u_ k_ => XS.astore X409.here hx rfl (hb hby at_51) rfl rfl (l' := #[.val (.int n), .val (.int x1), .val (.int y1), .val (.int z1), .val (.int (1 : Int32)), .val (.ref r_383), .val (.ref r_390), .val (.ref r_397), .val (.ref r_404), .val (.ref r_411), .unset, .unset]) rfl k_) ?_
    show own_Go p e below _ (T409.setTop (mkF m 53 #[.val (.int n), .val (.int x1), .val (.int y1), .val (.int z1), .val (.int (1 : Int32)), .val (.ref r_383), .val (.ref r_390), .val (.ref r_397), .val (.ref r_404), .val (.ref r_411), .unset, .unset] []))
    refine own_st (fun u_ k_ => XS.aload X409.here hx rfl (hb hby at_53) rfl rfl k_) ?_
    show own_Go p e below _ (T409.setTop (mkF m 55 #[.val (.int n), .val (.int x1), .val (.int y1), .val (.int z1), .val (.int (1 : Int32)), .val (.ref r_383), .val (.ref r_390), .val (.ref r_397), .val (.ref r_404), .val (.ref r_411), .unset, .unset] [(.ref r_397)]))
    have O417 : Old Z n0 T409.heap := O410.keep K409 all0
    obtain ⟨T416, v416, L416, X416, hQ416, st416⟩ := own_callS X409 hx hZ (y := (⟨"com/example/tasdik/tasdik/core/cbor/CborValue", "byteString", "([B)Lcom/example/tasdik/tasdik/core/cbor/CborValue;"⟩ : MethodName)) hown (hw _ (List.mem_of_getElem? (i := 5) rfl)) (hw _ (List.mem_of_getElem? (i := 6) rfl)) (hw _ (List.mem_of_getElem? (i := 7) rfl)) (hw _ (List.mem_of_getElem? (i := 8) rfl)) own_lm_134 (rmB l Z a0 hw [] w0 wl wp mr hS r_397 T409.heap n0 O417 ) rfl own_pd_273 (argsL := [(.ref r_397)]) (rest := []) rfl rfl (g := (mkF m 55 #[.val (.int n), .val (.int x1), .val (.int y1), .val (.int z1), .val (.int (1 : Int32)), .val (.ref r_383), .val (.ref r_390), .val (.ref r_397), .val (.ref r_404), .val (.ref r_411), .unset, .unset] [(.ref r_397)])) rfl (by rw [hml]; rfl) rfl (hb hby at_55) (W := 0) rfl (by decide) (by decide) (by decide) (by decide)
    obtain ⟨r_418, rfl, M416, K416, z419, F420, F421, F422⟩ := hQ416
    have N416 := Fr.app N409 M416
    refine own_st (fun u_ k_ => st416 u_ k_) ?_
    show own_Go p e below _ (T416.setTop (mkF m 58 #[.val (.int n), .val (.int x1), .val (.int y1), .val (.int z1), .val (.int (1 : Int32)), .val (.ref r_383), .val (.ref r_390), .val (.ref r_397), .val (.ref r_404), .val (.ref r_411), .unset, .unset] [(.ref r_418)]))
    refine own_st (fun u_ k_ => XS.astore X416.here hx rfl (hb hby at_58) rfl rfl (l' := #[.val (.int n), .val (.int x1), .val (.int y1), .val (.int z1), .val (.int (1 : Int32)), .val (.ref r_383), .val (.ref r_390), .val (.ref r_397), .val (.ref r_404), .val (.ref r_411), .val (.ref r_418), .unset]) rfl k_) ?_
    show own_Go p e below _ (T416.setTop (mkF m 60 #[.val (.int n), .val (.int x1), .val (.int y1), .val (.int z1), .val (.int (1 : Int32)), .val (.ref r_383), .val (.ref r_390), .val (.ref r_397), .val (.ref r_404), .val (.ref r_411), .val (.ref r_418), .unset] []))
    refine own_st (fun u_ k_ => XS.aload X416.here hx rfl (hb hby at_60) rfl rfl k_) ?_
    show own_Go p e below _ (T416.setTop (mkF m 62 #[.val (.int n), .val (.int x1), .val (.int y1), .val (.int z1), .val (.int (1 : Int32)), .val (.ref r_383), .val (.ref r_390), .val (.ref r_397), .val (.ref r_404), .val (.ref r_411), .val (.ref r_418), .unset] [(.ref r_404)]))
    have F423 : Fld Z T416.heap r_404 "com/example/tasdik/tasdik/core/cbor/CborValue" "type" "Lcom/example/tasdik/tasdik/core/cbor/CborValue$Type;" (.ref w0) := ((F407.keep K409 nin0).keep K416 nin0)
    have O425 : Old Z n0 T416.heap := O417.keep K416 all0
    have F426 : Exa Z T416.heap r_404 "com/example/tasdik/tasdik/core/cbor/CborValue" := ((F406.keep K409).keep K416)
    obtain ⟨T424, v424, L424, X424, hQ424, st424⟩ := own_callV X416 hx hZ (y := (⟨"com/example/tasdik/tasdik/core/cbor/CborValue", "type", "()Lcom/example/tasdik/tasdik/core/cbor/CborValue$Type;"⟩ : MethodName)) (z := (⟨"com/example/tasdik/tasdik/core/cbor/CborValue", "type", "()Lcom/example/tasdik/tasdik/core/cbor/CborValue$Type;"⟩ : MethodName)) hown (hw _ (List.mem_of_getElem? (i := 45) rfl)) (hw _ (List.mem_of_getElem? (i := 46) rfl)) (notFace_of_selects (args := #[]) (mvT hZ (hw _ (List.mem_of_getElem? (i := 48) rfl)))) (hw _ (List.mem_of_getElem? (i := 48) rfl)) (hw _ (List.mem_of_getElem? (i := 47) rfl)) (hw _ (List.mem_of_getElem? (i := 7) rfl)) (hw _ (List.mem_of_getElem? (i := 49) rfl)) own_lm_134 (rmT l Z a0 hw [] w0 wl wp mr hS r_404 w0 T416.heap n0 O425 F423) rfl F426 own_pd_274 (argsL := []) (rest := []) rfl rfl (g := (mkF m 62 #[.val (.int n), .val (.int x1), .val (.int y1), .val (.int z1), .val (.int (1 : Int32)), .val (.ref r_383), .val (.ref r_390), .val (.ref r_397), .val (.ref r_404), .val (.ref r_411), .val (.ref r_418), .unset] [(.ref r_404)])) rfl (by rw [hml]; rfl) rfl (hb hby at_62) (W := 0) rfl (by decide) (by decide) (by decide) (by decide)
    obtain ⟨rfl, M424, e424⟩ := hQ424
    have N424 := Fr.app N416 M424
    refine own_st (fun u_ k_ => st424 u_ k_) ?_
    show own_Go p e below _ (T424.setTop (mkF m 65 #[.val (.int n), .val (.int x1), .val (.int y1), .val (.int z1), .val (.int (1 : Int32)), .val (.ref r_383), .val (.ref r_390), .val (.ref r_397), .val (.ref r_404), .val (.ref r_411), .val (.ref r_418), .unset] [(.ref w0)]))
    have F427 : Sta Z T416.heap "com/example/tasdik/tasdik/core/cbor/CborValue$Type" "BYTE_STRING" "Lcom/example/tasdik/tasdik/core/cbor/CborValue$Type;" (.ref w0) := Sta.ext O425.2 hS.1
    obtain ⟨T428, X428, e428, st428⟩ := getS2 X424 hx hZ hown (host := "") (Or.inl (hw _ (List.mem_of_getElem? (i := 50) rfl))) Via.refl e424 F427 (g := (mkF m 65 #[.val (.int n), .val (.int x1), .val (.int y1), .val (.int z1), .val (.int (1 : Int32)), .val (.ref r_383), .val (.ref r_390), .val (.ref r_397), .val (.ref r_404), .val (.ref r_411), .val (.ref r_418), .unset] [(.ref w0)])) rfl (hb hby at_65)
    refine own_st (fun u_ k_ => st428 u_ k_) ?_
    show own_Go p e below _ (T428.setTop (mkF m 68 #[.val (.int n), .val (.int x1), .val (.int y1), .val (.int z1), .val (.int (1 : Int32)), .val (.ref r_383), .val (.ref r_390), .val (.ref r_397), .val (.ref r_404), .val (.ref r_411), .val (.ref r_418), .unset] [(.ref w0), (.ref w0)]))
    refine own_st (fun u_ k_ => XT.acmpYes X428.here hx rfl (pc0 := 68) (pc' := 73) rfl (hb hby at_68) rfl rfl rfl (XT.aa_eq_t rfl) (by decide) (by decide) k_) ?_
    show own_Go p e below _ (T428.setTop (mkF m 73 #[.val (.int n), .val (.int x1), .val (.int y1), .val (.int z1), .val (.int (1 : Int32)), .val (.ref r_383), .val (.ref r_390), .val (.ref r_397), .val (.ref r_404), .val (.ref r_411), .val (.ref r_418), .unset] []))
    refine own_st (fun u_ k_ => XS.aload X428.here hx rfl (hb hby at_73) rfl rfl k_) ?_
    show own_Go p e below _ (T428.setTop (mkF m 75 #[.val (.int n), .val (.int x1), .val (.int y1), .val (.int z1), .val (.int (1 : Int32)), .val (.ref r_383), .val (.ref r_390), .val (.ref r_397), .val (.ref r_404), .val (.ref r_411), .val (.ref r_418), .unset] [(.ref r_404)]))
    have F429 : Fld Z T416.heap r_404 "com/example/tasdik/tasdik/core/cbor/CborValue" "bytes" "[B" (.ref r_383) := ((F408.keep K409 nin0).keep K416 nin0)
    have F430 : Arv Z T416.heap r_383 kr_384 .byte (1 : Int32) [(.int (x1.toInt8.toInt32))] (.int (0 : Int32)) := (((((F386.keep K388 nin0).keep K395 nin0).keep K402 nin0).keep K409 nin0).keep K416 nin0)
    have F431 : Exa Z T416.heap r_383 "[B" := (((((F387.keep K388).keep K395).keep K402).keep K409).keep K416)
    obtain ⟨T432, v432, L432, X432, hQ432, st432⟩ := own_callV X428 hx hZ (y := (⟨"com/example/tasdik/tasdik/core/cbor/CborValue", "bytes", "()[B"⟩ : MethodName)) (z := (⟨"com/example/tasdik/tasdik/core/cbor/CborValue", "bytes", "()[B"⟩ : MethodName)) hown (hw _ (List.mem_of_getElem? (i := 51) rfl)) (hw _ (List.mem_of_getElem? (i := 52) rfl)) (notFace_of_selects (args := #[]) (mvT hZ (hw _ (List.mem_of_getElem? (i := 54) rfl)))) (hw _ (List.mem_of_getElem? (i := 54) rfl)) (hw _ (List.mem_of_getElem? (i := 53) rfl)) (hw _ (List.mem_of_getElem? (i := 7) rfl)) (hw _ (List.mem_of_getElem? (i := 55) rfl)) own_lm_134 (rmY1 l Z a0 hw [] w0 wl wp mr hS r_404 r_383 kr_384 (x1.toInt8.toInt32) T416.heap n0 O425 F426 F423 F429 F430 F431) e428 F426 own_pd_275 (argsL := []) (rest := []) rfl rfl (g := (mkF m 75 #[.val (.int n), .val (.int x1), .val (.int y1), .val (.int z1), .val (.int (1 : Int32)), .val (.ref r_383), .val (.ref r_390), .val (.ref r_397), .val (.ref r_404), .val (.ref r_411), .val (.ref r_418), .unset] [(.ref r_404)])) rfl (by rw [hml]; rfl) rfl (hb hby at_75) (W := 0) rfl (by decide) (by decide) (by decide) (by decide)
    obtain ⟨r_433, kr_434, rfl, M432, K432, z435, F436, F437⟩ := hQ432
    have N432 := Fr.app N424 M432
    refine own_st (fun u_ k_ => st432 u_ k_) ?_
    show own_Go p e below _ (T432.setTop (mkF m 78 #[.val (.int n), .val (.int x1), .val (.int y1), .val (.int z1), .val (.int (1 : Int32)), .val (.ref r_383), .val (.ref r_390), .val (.ref r_397), .val (.ref r_404), .val (.ref r_411), .val (.ref r_418), .unset] [(.ref r_433)]))
    refine own_st (fun u_ k_ => XS.astore X432.here hx rfl (hb hby at_78) rfl rfl (l' := #[.val (.int n), .val (.int x1), .val (.int y1), .val (.int z1), .val (.int (1 : Int32)), .val (.ref r_383), .val (.ref r_390), .val (.ref r_397), .val (.ref r_404), .val (.ref r_411), .val (.ref r_418), .val (.ref r_433)]) rfl k_) ?_
    show own_Go p e below _ (T432.setTop (mkF m 80 #[.val (.int n), .val (.int x1), .val (.int y1), .val (.int z1), .val (.int (1 : Int32)), .val (.ref r_383), .val (.ref r_390), .val (.ref r_397), .val (.ref r_404), .val (.ref r_411), .val (.ref r_418), .val (.ref r_433)] []))
    refine own_st (fun u_ k_ => XS.aload X432.here hx rfl (hb hby at_80) rfl rfl k_) ?_
    show own_Go p e below _ (T432.setTop (mkF m 82 #[.val (.int n), .val (.int x1), .val (.int y1), .val (.int z1), .val (.int (1 : Int32)), .val (.ref r_383), .val (.ref r_390), .val (.ref r_397), .val (.ref r_404), .val (.ref r_411), .val (.ref r_418), .val (.ref r_433)] [(.ref r_433)]))
    obtain ⟨cl438, Ar438, -, S438, N438, -, -⟩ := id F436
    refine own_st (X432.arraylength hx Ar438.1 (State.isArrayOf_alike hZ.alike Ar438.2.1) (g := (mkF m 82 #[.val (.int n), .val (.int x1), .val (.int y1), .val (.int z1), .val (.int (1 : Int32)), .val (.ref r_383), .val (.ref r_390), .val (.ref r_397), .val (.ref r_404), .val (.ref r_411), .val (.ref r_418), .val (.ref r_433)] [(.ref r_433)])) rfl rfl (hb hby at_82)) ?_
    rw [len_of S438 N438]
    show own_Go p e below _ (T432.setTop (mkF m 83 #[.val (.int n), .val (.int x1), .val (.int y1), .val (.int z1), .val (.int (1 : Int32)), .val (.ref r_383), .val (.ref r_390), .val (.ref r_397), .val (.ref r_404), .val (.ref r_411), .val (.ref r_418), .val (.ref r_433)] [(.int (1 : Int32))]))
    refine own_st (fun u_ k_ => XS.iload X432.here hx rfl (hb hby at_83) rfl k_) ?_
    show own_Go p e below _ (T432.setTop (mkF m 85 #[.val (.int n), .val (.int x1), .val (.int y1), .val (.int z1), .val (.int (1 : Int32)), .val (.ref r_383), .val (.ref r_390), .val (.ref r_397), .val (.ref r_404), .val (.ref r_411), .val (.ref r_418), .val (.ref r_433)] [(.int (1 : Int32)), (.int (1 : Int32))]))
    refine own_st (fun u_ k_ => XS.icmpYes X432.here hx rfl (pc0 := 85) (pc' := 90) rfl (hb hby at_85) rfl (XT.ii_eq_t (by decide)) (by decide) (by decide) k_) ?_
    show own_Go p e below _ (T432.setTop (mkF m 90 #[.val (.int n), .val (.int x1), .val (.int y1), .val (.int z1), .val (.int (1 : Int32)), .val (.ref r_383), .val (.ref r_390), .val (.ref r_397), .val (.ref r_404), .val (.ref r_411), .val (.ref r_418), .val (.ref r_433)] []))
    refine own_st (fun u_ k_ => XS.iload X432.here hx rfl (hb hby at_90) rfl k_) ?_
    show own_Go p e below _ (T432.setTop (mkF m 92 #[.val (.int n), .val (.int x1), .val (.int y1), .val (.int z1), .val (.int (1 : Int32)), .val (.ref r_383), .val (.ref r_390), .val (.ref r_397), .val (.ref r_404), .val (.ref r_411), .val (.ref r_418), .val (.ref r_433)] [(.int (1 : Int32))]))
    refine own_st (fun u_ k_ => XS.ifNo X432.here hx rfl (hb hby at_92) rfl (XT.i0_le_f (by decide)) k_) ?_
    show own_Go p e below _ (T432.setTop (mkF m 95 #[.val (.int n), .val (.int x1), .val (.int y1), .val (.int z1), .val (.int (1 : Int32)), .val (.ref r_383), .val (.ref r_390), .val (.ref r_397), .val (.ref r_404), .val (.ref r_411), .val (.ref r_418), .val (.ref r_433)] []))
    refine own_st (fun u_ k_ => XS.aload X432.here hx rfl (hb hby at_95) rfl rfl k_) ?_
    show own_Go p e below _ (T432.setTop (mkF m 97 #[.val (.int n), .val (.int x1), .val (.int y1), .val (.int z1), .val (.int (1 : Int32)), .val (.ref r_383), .val (.ref r_390), .val (.ref r_397), .val (.ref r_404), .val (.ref r_411), .val (.ref r_418), .val (.ref r_433)] [(.ref r_433)]))
    refine own_st (fun u_ k_ => XS.iconst X432.here hx rfl (hb hby at_97) k_) ?_
    show own_Go p e below _ (T432.setTop (mkF m 98 #[.val (.int n), .val (.int x1), .val (.int y1), .val (.int z1), .val (.int (1 : Int32)), .val (.ref r_383), .val (.ref r_390), .val (.ref r_397), .val (.ref r_404), .val (.ref r_411), .val (.ref r_418), .val (.ref r_433)] [(.int (0 : Int32)), (.ref r_433)]))
    obtain ⟨cl439, Ar439, q439, S439, N439, H439, G439⟩ := id F436
    have hi439 : ¬ ((0 : Int32) < 0 ∨ cl439.slots.size ≤ ((0 : Int32)).toNatClampNeg) := inb_of S439 ⟨by decide, by decide⟩
    have ha439 : cl439.slots[((0 : Int32)).toNatClampNeg]? = some (.int (x1.toInt8.toInt32)) := H439.at hi439 rfl
    refine own_st (X432.baloadBytes hx (j := (0 : Int32)) (v := (.int (x1.toInt8.toInt32))) Ar439.1 (State.isArrayOf_alike hZ.alike Ar439.2.1) Ar439.2.2 hi439 ha439 (g := (mkF m 98 #[.val (.int n), .val (.int x1), .val (.int y1), .val (.int z1), .val (.int (1 : Int32)), .val (.ref r_383), .val (.ref r_390), .val (.ref r_397), .val (.ref r_404), .val (.ref r_411), .val (.ref r_418), .val (.ref r_433)] [(.int (0 : Int32)), (.ref r_433)])) rfl rfl (hb hby at_98)) ?_
    show own_Go p e below _ (T432.setTop (mkF m 99 #[.val (.int n), .val (.int x1), .val (.int y1), .val (.int z1), .val (.int (1 : Int32)), .val (.ref r_383), .val (.ref r_390), .val (.ref r_397), .val (.ref r_404), .val (.ref r_411), .val (.ref r_418), .val (.ref r_433)] [(.int (x1.toInt8.toInt32))]))
    refine own_st (fun u_ k_ => XS.iloadN X432.here hx rfl (hb hby at_99) rfl k_) ?_
    show own_Go p e below _ (T432.setTop (mkF m 100 #[.val (.int n), .val (.int x1), .val (.int y1), .val (.int z1), .val (.int (1 : Int32)), .val (.ref r_383), .val (.ref r_390), .val (.ref r_397), .val (.ref r_404), .val (.ref r_411), .val (.ref r_418), .val (.ref r_433)] [(.int x1), (.int (x1.toInt8.toInt32))]))
    refine own_st (fun u_ k_ => XS.i2b X432.here hx rfl (hb hby at_100) rfl k_) ?_
    show own_Go p e below _ (T432.setTop (mkF m 101 #[.val (.int n), .val (.int x1), .val (.int y1), .val (.int z1), .val (.int (1 : Int32)), .val (.ref r_383), .val (.ref r_390), .val (.ref r_397), .val (.ref r_404), .val (.ref r_411), .val (.ref r_418), .val (.ref r_433)] [(.int (x1.toInt8.toInt32)), (.int (x1.toInt8.toInt32))]))
    refine own_st (fun u_ k_ => XS.icmpYes X432.here hx rfl (pc0 := 101) (pc' := 106) rfl (hb hby at_101) rfl (XT.ii_eq_t rfl) (by decide) (by decide) k_) ?_
    show own_Go p e below _ (T432.setTop (mkF m 106 #[.val (.int n), .val (.int x1), .val (.int y1), .val (.int z1), .val (.int (1 : Int32)), .val (.ref r_383), .val (.ref r_390), .val (.ref r_397), .val (.ref r_404), .val (.ref r_411), .val (.ref r_418), .val (.ref r_433)] []))
    refine own_st (fun u_ k_ => XS.iload X432.here hx rfl (hb hby at_106) rfl k_) ?_
    show own_Go p e below _ (T432.setTop (mkF m 108 #[.val (.int n), .val (.int x1), .val (.int y1), .val (.int z1), .val (.int (1 : Int32)), .val (.ref r_383), .val (.ref r_390), .val (.ref r_397), .val (.ref r_404), .val (.ref r_411), .val (.ref r_418), .val (.ref r_433)] [(.int (1 : Int32))]))
    refine own_st (fun u_ k_ => XS.iconst X432.here hx rfl (hb hby at_108) k_) ?_
    show own_Go p e below _ (T432.setTop (mkF m 109 #[.val (.int n), .val (.int x1), .val (.int y1), .val (.int z1), .val (.int (1 : Int32)), .val (.ref r_383), .val (.ref r_390), .val (.ref r_397), .val (.ref r_404), .val (.ref r_411), .val (.ref r_418), .val (.ref r_433)] [(.int (1 : Int32)), (.int (1 : Int32))]))
    refine own_st (fun u_ k_ => XS.icmpYes X432.here hx rfl (pc0 := 109) (pc' := 123) rfl (hb hby at_109) rfl (XT.ii_le_t (by decide)) (by decide) (by decide) k_) ?_
    show own_Go p e below _ (T432.setTop (mkF m 123 #[.val (.int n), .val (.int x1), .val (.int y1), .val (.int z1), .val (.int (1 : Int32)), .val (.ref r_383), .val (.ref r_390), .val (.ref r_397), .val (.ref r_404), .val (.ref r_411), .val (.ref r_418), .val (.ref r_433)] []))
    refine own_st (fun u_ k_ => XS.iload X432.here hx rfl (hb hby at_123) rfl k_) ?_
    show own_Go p e below _ (T432.setTop (mkF m 125 #[.val (.int n), .val (.int x1), .val (.int y1), .val (.int z1), .val (.int (1 : Int32)), .val (.ref r_383), .val (.ref r_390), .val (.ref r_397), .val (.ref r_404), .val (.ref r_411), .val (.ref r_418), .val (.ref r_433)] [(.int (1 : Int32))]))
    refine own_st (fun u_ k_ => XS.iconst X432.here hx rfl (hb hby at_125) k_) ?_
    show own_Go p e below _ (T432.setTop (mkF m 126 #[.val (.int n), .val (.int x1), .val (.int y1), .val (.int z1), .val (.int (1 : Int32)), .val (.ref r_383), .val (.ref r_390), .val (.ref r_397), .val (.ref r_404), .val (.ref r_411), .val (.ref r_418), .val (.ref r_433)] [(.int (2 : Int32)), (.int (1 : Int32))]))
    refine own_st (fun u_ k_ => XS.icmpYes X432.here hx rfl (pc0 := 126) (pc' := 140) rfl (hb hby at_126) rfl (XT.ii_le_t (by decide)) (by decide) (by decide) k_) ?_
    show own_Go p e below _ (T432.setTop (mkF m 140 #[.val (.int n), .val (.int x1), .val (.int y1), .val (.int z1), .val (.int (1 : Int32)), .val (.ref r_383), .val (.ref r_390), .val (.ref r_397), .val (.ref r_404), .val (.ref r_411), .val (.ref r_418), .val (.ref r_433)] []))
    refine own_st (fun u_ k_ => XS.aload X432.here hx rfl (hb hby at_140) rfl rfl k_) ?_
    show own_Go p e below _ (T432.setTop (mkF m 142 #[.val (.int n), .val (.int x1), .val (.int y1), .val (.int z1), .val (.int (1 : Int32)), .val (.ref r_383), .val (.ref r_390), .val (.ref r_397), .val (.ref r_404), .val (.ref r_411), .val (.ref r_418), .val (.ref r_433)] [(.ref r_404)]))
    refine own_st (fun u_ k_ => XS.aload X432.here hx rfl (hb hby at_142) rfl rfl k_) ?_
    show own_Go p e below _ (T432.setTop (mkF m 144 #[.val (.int n), .val (.int x1), .val (.int y1), .val (.int z1), .val (.int (1 : Int32)), .val (.ref r_383), .val (.ref r_390), .val (.ref r_397), .val (.ref r_404), .val (.ref r_411), .val (.ref r_418), .val (.ref r_433)] [(.ref r_411), (.ref r_404)]))
    have F440 : Exa Z T432.heap r_404 "com/example/tasdik/tasdik/core/cbor/CborValue" := (F426.keep K432)
    have F441 : Exa Z T432.heap r_411 "com/example/tasdik/tasdik/core/cbor/CborValue" := ((F413.keep K416).keep K432)
    have F442 : Fld Z T432.heap r_404 "com/example/tasdik/tasdik/core/cbor/CborValue" "type" "Lcom/example/tasdik/tasdik/core/cbor/CborValue$Type;" (.ref w0) := (F423.keep K432 nin0)
    have F443 : Fld Z T432.heap r_411 "com/example/tasdik/tasdik/core/cbor/CborValue" "type" "Lcom/example/tasdik/tasdik/core/cbor/CborValue$Type;" (.ref w0) := ((F414.keep K416 nin0).keep K432 nin0)
    have F444 : Fld Z T432.heap r_404 "com/example/tasdik/tasdik/core/cbor/CborValue" "bytes" "[B" (.ref r_383) := (F429.keep K432 nin0)
    have F445 : Fld Z T432.heap r_411 "com/example/tasdik/tasdik/core/cbor/CborValue" "bytes" "[B" (.ref r_390) := ((F415.keep K416 nin0).keep K432 nin0)
    have F446 : Arv Z T432.heap r_383 kr_384 .byte (1 : Int32) [(.int (x1.toInt8.toInt32))] (.int (0 : Int32)) := (F430.keep K432 nin0)
    have F447 : Arv Z T432.heap r_390 kr_391 .byte (1 : Int32) [(.int (x1.toInt8.toInt32))] (.int (0 : Int32)) := (((((F393.keep K395 nin0).keep K402 nin0).keep K409 nin0).keep K416 nin0).keep K432 nin0)
    have ne448 : r_383 ≠ r_390 := (Nat.ne_of_lt (Nat.lt_of_lt_of_le F386.lt z392))
    have O450 : Old Z n0 T432.heap := O425.keep K432 all0
    obtain ⟨T449, v449, L449, X449, hQ449, st449⟩ := own_callV X432 hx hZ (y := (⟨"com/example/tasdik/tasdik/core/cbor/CborValue", "equals", "(Ljava/lang/Object;)Z"⟩ : MethodName)) (z := (⟨"com/example/tasdik/tasdik/core/cbor/CborValue", "equals", "(Ljava/lang/Object;)Z"⟩ : MethodName)) hown (hw _ (List.mem_of_getElem? (i := 69) rfl)) (hw _ (List.mem_of_getElem? (i := 70) rfl)) (notFace_of_selects (args := #[]) (mvT hZ (hw _ (List.mem_of_getElem? (i := 72) rfl)))) (hw _ (List.mem_of_getElem? (i := 72) rfl)) (hw _ (List.mem_of_getElem? (i := 71) rfl)) (hw _ (List.mem_of_getElem? (i := 7) rfl)) (hw _ (List.mem_of_getElem? (i := 73) rfl)) own_lm_134 (rmE1_1 l Z a0 hw [] w0 wl wp mr hS r_404 r_411 r_383 r_390 kr_384 kr_391 (x1.toInt8.toInt32) T432.heap n0 O450 F440 F441 F442 F443 F444 F445 F446 F447 ne448) rfl F440 own_pd_276 (argsL := [(.ref r_411)]) (rest := []) rfl rfl (g := (mkF m 144 #[.val (.int n), .val (.int x1), .val (.int y1), .val (.int z1), .val (.int (1 : Int32)), .val (.ref r_383), .val (.ref r_390), .val (.ref r_397), .val (.ref r_404), .val (.ref r_411), .val (.ref r_418), .val (.ref r_433)] [(.ref r_411), (.ref r_404)])) rfl (by rw [hml]; rfl) rfl (hb hby at_144) (W := 0) rfl (by decide) (by decide) (by decide) (by decide)
    obtain ⟨rfl, M449, e449⟩ := hQ449
    have N449 := Fr.app N432 M449
    refine own_st (fun u_ k_ => st449 u_ k_) ?_
    show own_Go p e below _ (T449.setTop (mkF m 147 #[.val (.int n), .val (.int x1), .val (.int y1), .val (.int z1), .val (.int (1 : Int32)), .val (.ref r_383), .val (.ref r_390), .val (.ref r_397), .val (.ref r_404), .val (.ref r_411), .val (.ref r_418), .val (.ref r_433)] [(.int (1 : Int32))]))
    refine own_st (fun u_ k_ => XS.ifNo X449.here hx rfl (hb hby at_147) rfl (XT.i0_eq_f (by decide)) k_) ?_
    show own_Go p e below _ (T449.setTop (mkF m 150 #[.val (.int n), .val (.int x1), .val (.int y1), .val (.int z1), .val (.int (1 : Int32)), .val (.ref r_383), .val (.ref r_390), .val (.ref r_397), .val (.ref r_404), .val (.ref r_411), .val (.ref r_418), .val (.ref r_433)] []))
    refine own_st (fun u_ k_ => XS.aload X449.here hx rfl (hb hby at_150) rfl rfl k_) ?_
    show own_Go p e below _ (T449.setTop (mkF m 152 #[.val (.int n), .val (.int x1), .val (.int y1), .val (.int z1), .val (.int (1 : Int32)), .val (.ref r_383), .val (.ref r_390), .val (.ref r_397), .val (.ref r_404), .val (.ref r_411), .val (.ref r_418), .val (.ref r_433)] [(.ref r_404)]))
    refine own_st (fun u_ k_ => XS.aload X449.here hx rfl (hb hby at_152) rfl rfl k_) ?_
    show own_Go p e below _ (T449.setTop (mkF m 154 #[.val (.int n), .val (.int x1), .val (.int y1), .val (.int z1), .val (.int (1 : Int32)), .val (.ref r_383), .val (.ref r_390), .val (.ref r_397), .val (.ref r_404), .val (.ref r_411), .val (.ref r_418), .val (.ref r_433)] [(.ref r_418), (.ref r_404)]))
    have F451 : Exa Z T432.heap r_418 "com/example/tasdik/tasdik/core/cbor/CborValue" := (F420.keep K432)
    have F452 : Fld Z T432.heap r_418 "com/example/tasdik/tasdik/core/cbor/CborValue" "type" "Lcom/example/tasdik/tasdik/core/cbor/CborValue$Type;" (.ref w0) := (F421.keep K432 nin0)
    have F453 : Fld Z T432.heap r_418 "com/example/tasdik/tasdik/core/cbor/CborValue" "bytes" "[B" (.ref r_397) := (F422.keep K432 nin0)
    have F454 : Arv Z T432.heap r_397 kr_398 .byte (2 : Int32) [(.int (x1.toInt8.toInt32)), (.int (y1.toInt8.toInt32))] (.int (0 : Int32)) := ((((F400.keep K402 nin0).keep K409 nin0).keep K416 nin0).keep K432 nin0)
    have ne455 : r_383 ≠ r_397 := (Nat.ne_of_lt (Nat.lt_of_lt_of_le (Nat.lt_of_lt_of_le F386.lt K388.1) z399))
    obtain ⟨T456, v456, L456, X456, hQ456, st456⟩ := own_callV X449 hx hZ (y := (⟨"com/example/tasdik/tasdik/core/cbor/CborValue", "equals", "(Ljava/lang/Object;)Z"⟩ : MethodName)) (z := (⟨"com/example/tasdik/tasdik/core/cbor/CborValue", "equals", "(Ljava/lang/Object;)Z"⟩ : MethodName)) hown (hw _ (List.mem_of_getElem? (i := 69) rfl)) (hw _ (List.mem_of_getElem? (i := 70) rfl)) (notFace_of_selects (args := #[]) (mvT hZ (hw _ (List.mem_of_getElem? (i := 72) rfl)))) (hw _ (List.mem_of_getElem? (i := 72) rfl)) (hw _ (List.mem_of_getElem? (i := 71) rfl)) (hw _ (List.mem_of_getElem? (i := 7) rfl)) (hw _ (List.mem_of_getElem? (i := 73) rfl)) own_lm_134 (rmE1_2 l Z a0 hw [] w0 wl wp mr hS r_404 r_418 r_383 r_397 kr_384 kr_398 (x1.toInt8.toInt32) (y1.toInt8.toInt32) T432.heap n0 O450 F440 F451 F442 F452 F444 F453 F446 F454 ne455) e449 F440 own_pd_276 (argsL := [(.ref r_418)]) (rest := []) rfl rfl (g := (mkF m 154 #[.val (.int n), .val (.int x1), .val (.int y1), .val (.int z1), .val (.int (1 : Int32)), .val (.ref r_383), .val (.ref r_390), .val (.ref r_397), .val (.ref r_404), .val (.ref r_411), .val (.ref r_418), .val (.ref r_433)] [(.ref r_418), (.ref r_404)])) rfl (by rw [hml]; rfl) rfl (hb hby at_154) (W := 0) rfl (by decide) (by decide) (by decide) (by decide)
    obtain ⟨rfl, M456, e456⟩ := hQ456
    have N456 := Fr.app N449 M456
    refine own_st (fun u_ k_ => st456 u_ k_) ?_
    show own_Go p e below _ (T456.setTop (mkF m 157 #[.val (.int n), .val (.int x1), .val (.int y1), .val (.int z1), .val (.int (1 : Int32)), .val (.ref r_383), .val (.ref r_390), .val (.ref r_397), .val (.ref r_404), .val (.ref r_411), .val (.ref r_418), .val (.ref r_433)] [(.int (0 : Int32))]))
    refine own_st (fun u_ k_ => XS.ifNo X456.here hx rfl (hb hby at_157) rfl (XT.i0_ne_f (by decide)) k_) ?_
    show own_Go p e below _ (T456.setTop (mkF m 160 #[.val (.int n), .val (.int x1), .val (.int y1), .val (.int z1), .val (.int (1 : Int32)), .val (.ref r_383), .val (.ref r_390), .val (.ref r_397), .val (.ref r_404), .val (.ref r_411), .val (.ref r_418), .val (.ref r_433)] []))
    refine own_st (fun u_ k_ => XS.iconst X456.here hx rfl (hb hby at_160) k_) ?_
    show own_Go p e below _ (T456.setTop (mkF m 161 #[.val (.int n), .val (.int x1), .val (.int y1), .val (.int z1), .val (.int (1 : Int32)), .val (.ref r_383), .val (.ref r_390), .val (.ref r_397), .val (.ref r_404), .val (.ref r_411), .val (.ref r_418), .val (.ref r_433)] [(.int (1 : Int32))]))
    refine own_st (fun u_ k_ => XS.goto X456.here hx rfl (pc0 := 161) (pc' := 165) rfl (hb hby at_161) (by decide) (by decide) k_) ?_
    show own_Go p e below _ (T456.setTop (mkF m 165 #[.val (.int n), .val (.int x1), .val (.int y1), .val (.int z1), .val (.int (1 : Int32)), .val (.ref r_383), .val (.ref r_390), .val (.ref r_397), .val (.ref r_404), .val (.ref r_411), .val (.ref r_418), .val (.ref r_433)] [(.int (1 : Int32))]))
    have K457 : Keep h0 T382.heap [] := (Keep.refl h0 []).trans K382 all0
    have K458 : Keep h0 T388.heap [] := K457.trans K388 all0
    have K459 : Keep h0 T395.heap [] := K458.trans K395 all0
    have K460 : Keep h0 T402.heap [] := K459.trans K402 all0
    have K461 : Keep h0 T409.heap [] := K460.trans K409 all0
    have K462 : Keep h0 T416.heap [] := K461.trans K416 all0
    have K463 : Keep h0 T432.heap [] := K462.trans K432 all0
    exact own_retX X456 hx hlk hret rfl (Or.inl ⟨rfl, by simp, _, rfl⟩) (hb hby at_165) (by decide) (by decide) (show Qrm0 Z w0 wl wp mr n x1 y1 z1 h0 n0 (some (.int (1 : Int32))) T456.heap _ from (by rw [e456]; exact ⟨rfl, N456, K463⟩))
  · rw [hj]
    show own_Go p e below _ (s₁.setTop (mkF m 3 #[.val (.int n), .val (.int x1), .val (.int y1), .val (.int z1), .unset, .unset, .unset, .unset, .unset, .unset, .unset, .unset] [(.int (2 : Int32))]))
    refine own_st (fun u_ k_ => XS.istore X0.here hx rfl (hb hby at_3) rfl (l' := #[.val (.int n), .val (.int x1), .val (.int y1), .val (.int z1), .val (.int (2 : Int32)), .unset, .unset, .unset, .unset, .unset, .unset, .unset]) rfl k_) ?_
    show own_Go p e below _ (s₁.setTop (mkF m 5 #[.val (.int n), .val (.int x1), .val (.int y1), .val (.int z1), .val (.int (2 : Int32)), .unset, .unset, .unset, .unset, .unset, .unset, .unset] []))
    refine own_st (fun u_ k_ => XS.iload X0.here hx rfl (hb hby at_5) rfl k_) ?_
    show own_Go p e below _ (s₁.setTop (mkF m 7 #[.val (.int n), .val (.int x1), .val (.int y1), .val (.int z1), .val (.int (2 : Int32)), .unset, .unset, .unset, .unset, .unset, .unset, .unset] [(.int (2 : Int32))]))
    refine own_st (fun u_ k_ => XS.iloadN X0.here hx rfl (hb hby at_7) rfl k_) ?_
    show own_Go p e below _ (s₁.setTop (mkF m 8 #[.val (.int n), .val (.int x1), .val (.int y1), .val (.int z1), .val (.int (2 : Int32)), .unset, .unset, .unset, .unset, .unset, .unset, .unset] [(.int x1), (.int (2 : Int32))]))
    refine own_st (fun u_ k_ => XS.iloadN X0.here hx rfl (hb hby at_8) rfl k_) ?_
    show own_Go p e below _ (s₁.setTop (mkF m 9 #[.val (.int n), .val (.int x1), .val (.int y1), .val (.int z1), .val (.int (2 : Int32)), .unset, .unset, .unset, .unset, .unset, .unset, .unset] [(.int y1), (.int x1), (.int (2 : Int32))]))
    refine own_st (fun u_ k_ => XS.iloadN X0.here hx rfl (hb hby at_9) rfl k_) ?_
    show own_Go p e below _ (s₁.setTop (mkF m 10 #[.val (.int n), .val (.int x1), .val (.int y1), .val (.int z1), .val (.int (2 : Int32)), .unset, .unset, .unset, .unset, .unset, .unset, .unset] [(.int z1), (.int y1), (.int x1), (.int (2 : Int32))]))
    obtain ⟨T464, v464, L464, X464, hQ464, st464⟩ := own_callS X0 hx hZ (y := (⟨"com/example/tasdik/tasdik/core/cbor/CborValueByteStringPinLaw", "make", "(IIII)[B"⟩ : MethodName)) hown (hw _ (List.mem_of_getElem? (i := 0) rfl)) (hw _ (List.mem_of_getElem? (i := 1) rfl)) (hw _ (List.mem_of_getElem? (i := 2) rfl)) (hw _ (List.mem_of_getElem? (i := 3) rfl)) own_lm_271 (rmK2 l Z a0 hw [] w0 wl wp mr hS x1 y1 z1 h0 n0 O0 ) e0 own_pd_272 (argsL := [(.int (2 : Int32)), (.int x1), (.int y1), (.int z1)]) (rest := []) rfl rfl (g := (mkF m 10 #[.val (.int n), .val (.int x1), .val (.int y1), .val (.int z1), .val (.int (2 : Int32)), .unset, .unset, .unset, .unset, .unset, .unset, .unset] [(.int z1), (.int y1), (.int x1), (.int (2 : Int32))])) rfl (by rw [hml]; rfl) rfl (hb hby at_10) (W := 0) rfl (by decide) (by decide) (by decide) (by decide)
    obtain ⟨r_465, kr_466, rfl, M464, K464, z467, F468, F469⟩ := hQ464
    have N464 := Fr.app N0 M464
    refine own_st (fun u_ k_ => st464 u_ k_) ?_
    show own_Go p e below _ (T464.setTop (mkF m 13 #[.val (.int n), .val (.int x1), .val (.int y1), .val (.int z1), .val (.int (2 : Int32)), .unset, .unset, .unset, .unset, .unset, .unset, .unset] [(.ref r_465)]))
    refine own_st (fun u_ k_ => XS.astore X464.here hx rfl (hb hby at_13) rfl rfl (l' := #[.val (.int n), .val (.int x1), .val (.int y1), .val (.int z1), .val (.int (2 : Int32)), .val (.ref r_465), .unset, .unset, .unset, .unset, .unset, .unset]) rfl k_) ?_
    show own_Go p e below _ (T464.setTop (mkF m 15 #[.val (.int n), .val (.int x1), .val (.int y1), .val (.int z1), .val (.int (2 : Int32)), .val (.ref r_465), .unset, .unset, .unset, .unset, .unset, .unset] []))
    refine own_st (fun u_ k_ => XS.iload X464.here hx rfl (hb hby at_15) rfl k_) ?_
    show own_Go p e below _ (T464.setTop (mkF m 17 #[.val (.int n), .val (.int x1), .val (.int y1), .val (.int z1), .val (.int (2 : Int32)), .val (.ref r_465), .unset, .unset, .unset, .unset, .unset, .unset] [(.int (2 : Int32))]))
    refine own_st (fun u_ k_ => XS.iloadN X464.here hx rfl (hb hby at_17) rfl k_) ?_
    show own_Go p e below _ (T464.setTop (mkF m 18 #[.val (.int n), .val (.int x1), .val (.int y1), .val (.int z1), .val (.int (2 : Int32)), .val (.ref r_465), .unset, .unset, .unset, .unset, .unset, .unset] [(.int x1), (.int (2 : Int32))]))
    refine own_st (fun u_ k_ => XS.iloadN X464.here hx rfl (hb hby at_18) rfl k_) ?_
    show own_Go p e below _ (T464.setTop (mkF m 19 #[.val (.int n), .val (.int x1), .val (.int y1), .val (.int z1), .val (.int (2 : Int32)), .val (.ref r_465), .unset, .unset, .unset, .unset, .unset, .unset] [(.int y1), (.int x1), (.int (2 : Int32))]))
    refine own_st (fun u_ k_ => XS.iloadN X464.here hx rfl (hb hby at_19) rfl k_) ?_
    show own_Go p e below _ (T464.setTop (mkF m 20 #[.val (.int n), .val (.int x1), .val (.int y1), .val (.int z1), .val (.int (2 : Int32)), .val (.ref r_465), .unset, .unset, .unset, .unset, .unset, .unset] [(.int z1), (.int y1), (.int x1), (.int (2 : Int32))]))
    have O471 : Old Z n0 T464.heap := O0.keep K464 all0
    obtain ⟨T470, v470, L470, X470, hQ470, st470⟩ := own_callS X464 hx hZ (y := (⟨"com/example/tasdik/tasdik/core/cbor/CborValueByteStringPinLaw", "make", "(IIII)[B"⟩ : MethodName)) hown (hw _ (List.mem_of_getElem? (i := 0) rfl)) (hw _ (List.mem_of_getElem? (i := 1) rfl)) (hw _ (List.mem_of_getElem? (i := 2) rfl)) (hw _ (List.mem_of_getElem? (i := 3) rfl)) own_lm_271 (rmK2 l Z a0 hw [] w0 wl wp mr hS x1 y1 z1 T464.heap n0 O471 ) rfl own_pd_272 (argsL := [(.int (2 : Int32)), (.int x1), (.int y1), (.int z1)]) (rest := []) rfl rfl (g := (mkF m 20 #[.val (.int n), .val (.int x1), .val (.int y1), .val (.int z1), .val (.int (2 : Int32)), .val (.ref r_465), .unset, .unset, .unset, .unset, .unset, .unset] [(.int z1), (.int y1), (.int x1), (.int (2 : Int32))])) rfl (by rw [hml]; rfl) rfl (hb hby at_20) (W := 0) rfl (by decide) (by decide) (by decide) (by decide)
    obtain ⟨r_472, kr_473, rfl, M470, K470, z474, F475, F476⟩ := hQ470
    have N470 := Fr.app N464 M470
    refine own_st (fun u_ k_ => st470 u_ k_) ?_
    show own_Go p e below _ (T470.setTop (mkF m 23 #[.val (.int n), .val (.int x1), .val (.int y1), .val (.int z1), .val (.int (2 : Int32)), .val (.ref r_465), .unset, .unset, .unset, .unset, .unset, .unset] [(.ref r_472)]))
    refine own_st (fun u_ k_ => XS.astore X470.here hx rfl (hb hby at_23) rfl rfl (l' := #[.val (.int n), .val (.int x1), .val (.int y1), .val (.int z1), .val (.int (2 : Int32)), .val (.ref r_465), .val (.ref r_472), .unset, .unset, .unset, .unset, .unset]) rfl k_) ?_
    show own_Go p e below _ (T470.setTop (mkF m 25 #[.val (.int n), .val (.int x1), .val (.int y1), .val (.int z1), .val (.int (2 : Int32)), .val (.ref r_465), .val (.ref r_472), .unset, .unset, .unset, .unset, .unset] []))
    refine own_st (fun u_ k_ => XS.iload X470.here hx rfl (hb hby at_25) rfl k_) ?_
    show own_Go p e below _ (T470.setTop (mkF m 27 #[.val (.int n), .val (.int x1), .val (.int y1), .val (.int z1), .val (.int (2 : Int32)), .val (.ref r_465), .val (.ref r_472), .unset, .unset, .unset, .unset, .unset] [(.int (2 : Int32))]))
    refine own_st (fun u_ k_ => XS.iconst X470.here hx rfl (hb hby at_27) k_) ?_
    show own_Go p e below _ (T470.setTop (mkF m 28 #[.val (.int n), .val (.int x1), .val (.int y1), .val (.int z1), .val (.int (2 : Int32)), .val (.ref r_465), .val (.ref r_472), .unset, .unset, .unset, .unset, .unset] [(.int (1 : Int32)), (.int (2 : Int32))]))
    refine own_st (fun u_ k_ => XS.iadd X470.here hx rfl (hb hby at_28) rfl k_) ?_
    show own_Go p e below _ (T470.setTop (mkF m 29 #[.val (.int n), .val (.int x1), .val (.int y1), .val (.int z1), .val (.int (2 : Int32)), .val (.ref r_465), .val (.ref r_472), .unset, .unset, .unset, .unset, .unset] [(.int (3 : Int32))]))
    refine own_st (fun u_ k_ => XS.iconst X470.here hx rfl (hb hby at_29) k_) ?_
    show own_Go p e below _ (T470.setTop (mkF m 30 #[.val (.int n), .val (.int x1), .val (.int y1), .val (.int z1), .val (.int (2 : Int32)), .val (.ref r_465), .val (.ref r_472), .unset, .unset, .unset, .unset, .unset] [(.int (3 : Int32)), (.int (3 : Int32))]))
    refine own_st (fun u_ k_ => XS.iand X470.here hx rfl (hb hby at_30) rfl k_) ?_
    show own_Go p e below _ (T470.setTop (mkF m 31 #[.val (.int n), .val (.int x1), .val (.int y1), .val (.int z1), .val (.int (2 : Int32)), .val (.ref r_465), .val (.ref r_472), .unset, .unset, .unset, .unset, .unset] [(.int (3 : Int32))]))
    refine own_st (fun u_ k_ => XS.iloadN X470.here hx rfl (hb hby at_31) rfl k_) ?_
    show own_Go p e below _ (T470.setTop (mkF m 32 #[.val (.int n), .val (.int x1), .val (.int y1), .val (.int z1), .val (.int (2 : Int32)), .val (.ref r_465), .val (.ref r_472), .unset, .unset, .unset, .unset, .unset] [(.int x1), (.int (3 : Int32))]))
    refine own_st (fun u_ k_ => XS.iloadN X470.here hx rfl (hb hby at_32) rfl k_) ?_
    show own_Go p e below _ (T470.setTop (mkF m 33 #[.val (.int n), .val (.int x1), .val (.int y1), .val (.int z1), .val (.int (2 : Int32)), .val (.ref r_465), .val (.ref r_472), .unset, .unset, .unset, .unset, .unset] [(.int y1), (.int x1), (.int (3 : Int32))]))
    refine own_st (fun u_ k_ => XS.iloadN X470.here hx rfl (hb hby at_33) rfl k_) ?_
    show own_Go p e below _ (T470.setTop (mkF m 34 #[.val (.int n), .val (.int x1), .val (.int y1), .val (.int z1), .val (.int (2 : Int32)), .val (.ref r_465), .val (.ref r_472), .unset, .unset, .unset, .unset, .unset] [(.int z1), (.int y1), (.int x1), (.int (3 : Int32))]))
    have O478 : Old Z n0 T470.heap := O471.keep K470 all0
    obtain ⟨T477, v477, L477, X477, hQ477, st477⟩ := own_callS X470 hx hZ (y := (⟨"com/example/tasdik/tasdik/core/cbor/CborValueByteStringPinLaw", "make", "(IIII)[B"⟩ : MethodName)) hown (hw _ (List.mem_of_getElem? (i := 0) rfl)) (hw _ (List.mem_of_getElem? (i := 1) rfl)) (hw _ (List.mem_of_getElem? (i := 2) rfl)) (hw _ (List.mem_of_getElem? (i := 3) rfl)) own_lm_271 (rmK3 l Z a0 hw [] w0 wl wp mr hS x1 y1 z1 T470.heap n0 O478 ) rfl own_pd_272 (argsL := [(.int (3 : Int32)), (.int x1), (.int y1), (.int z1)]) (rest := []) rfl rfl (g := (mkF m 34 #[.val (.int n), .val (.int x1), .val (.int y1), .val (.int z1), .val (.int (2 : Int32)), .val (.ref r_465), .val (.ref r_472), .unset, .unset, .unset, .unset, .unset] [(.int z1), (.int y1), (.int x1), (.int (3 : Int32))])) rfl (by rw [hml]; rfl) rfl (hb hby at_34) (W := 0) rfl (by decide) (by decide) (by decide) (by decide)
    obtain ⟨r_479, kr_480, rfl, M477, K477, z481, F482, F483⟩ := hQ477
    have N477 := Fr.app N470 M477
    refine own_st (fun u_ k_ => st477 u_ k_) ?_
    show own_Go p e below _ (T477.setTop (mkF m 37 #[.val (.int n), .val (.int x1), .val (.int y1), .val (.int z1), .val (.int (2 : Int32)), .val (.ref r_465), .val (.ref r_472), .unset, .unset, .unset, .unset, .unset] [(.ref r_479)]))
    refine own_st (fun u_ k_ => XS.astore X477.here hx rfl (hb hby at_37) rfl rfl (l' := #[.val (.int n), .val (.int x1), .val (.int y1), .val (.int z1), .val (.int (2 : Int32)), .val (.ref r_465), .val (.ref r_472), .val (.ref r_479), .unset, .unset, .unset, .unset]) rfl k_) ?_
    show own_Go p e below _ (T477.setTop (mkF m 39 #[.val (.int n), .val (.int x1), .val (.int y1), .val (.int z1), .val (.int (2 : Int32)), .val (.ref r_465), .val (.ref r_472), .val (.ref r_479), .unset, .unset, .unset, .unset] []))
    refine own_st (fun u_ k_ => XS.aload X477.here hx rfl (hb hby at_39) rfl rfl k_) ?_
    show own_Go p e below _ (T477.setTop (mkF m 41 #[.val (.int n), .val (.int x1), .val (.int y1), .val (.int z1), .val (.int (2 : Int32)), .val (.ref r_465), .val (.ref r_472), .val (.ref r_479), .unset, .unset, .unset, .unset] [(.ref r_465)]))
    have O485 : Old Z n0 T477.heap := O478.keep K477 all0
    obtain ⟨T484, v484, L484, X484, hQ484, st484⟩ := own_callS X477 hx hZ (y := (⟨"com/example/tasdik/tasdik/core/cbor/CborValue", "byteString", "([B)Lcom/example/tasdik/tasdik/core/cbor/CborValue;"⟩ : MethodName)) hown (hw _ (List.mem_of_getElem? (i := 5) rfl)) (hw _ (List.mem_of_getElem? (i := 6) rfl)) (hw _ (List.mem_of_getElem? (i := 7) rfl)) (hw _ (List.mem_of_getElem? (i := 8) rfl)) own_lm_134 (rmB l Z a0 hw [] w0 wl wp mr hS r_465 T477.heap n0 O485 ) rfl own_pd_273 (argsL := [(.ref r_465)]) (rest := []) rfl rfl (g := (mkF m 41 #[.val (.int n), .val (.int x1), .val (.int y1), .val (.int z1), .val (.int (2 : Int32)), .val (.ref r_465), .val (.ref r_472), .val (.ref r_479), .unset, .unset, .unset, .unset] [(.ref r_465)])) rfl (by rw [hml]; rfl) rfl (hb hby at_41) (W := 0) rfl (by decide) (by decide) (by decide) (by decide)
    obtain ⟨r_486, rfl, M484, K484, z487, F488, F489, F490⟩ := hQ484
    have N484 := Fr.app N477 M484
    refine own_st (fun u_ k_ => st484 u_ k_) ?_
    show own_Go p e below _ (T484.setTop (mkF m 44 #[.val (.int n), .val (.int x1), .val (.int y1), .val (.int z1), .val (.int (2 : Int32)), .val (.ref r_465), .val (.ref r_472), .val (.ref r_479), .unset, .unset, .unset, .unset] [(.ref r_486)]))
    refine own_st (fun u_ k_ => XS.astore X484.here hx rfl (hb hby at_44) rfl rfl (l' := #[.val (.int n), .val (.int x1), .val (.int y1), .val (.int z1), .val (.int (2 : Int32)), .val (.ref r_465), .val (.ref r_472), .val (.ref r_479), .val (.ref r_486), .unset, .unset, .unset]) rfl k_) ?_
    show own_Go p e below _ (T484.setTop (mkF m 46 #[.val (.int n), .val (.int x1), .val (.int y1), .val (.int z1), .val (.int (2 : Int32)), .val (.ref r_465), .val (.ref r_472), .val (.ref r_479), .val (.ref r_486), .unset, .unset, .unset] []))
    refine own_st (fun u_ k_ => XS.aload X484.here hx rfl (hb hby at_46) rfl rfl k_) ?_
    show own_Go p e below _ (T484.setTop (mkF m 48 #[.val (.int n), .val (.int x1), .val (.int y1), .val (.int z1), .val (.int (2 : Int32)), .val (.ref r_465), .val (.ref r_472), .val (.ref r_479), .val (.ref r_486), .unset, .unset, .unset] [(.ref r_472)]))
    have O492 : Old Z n0 T484.heap := O485.keep K484 all0
    obtain ⟨T491, v491, L491, X491, hQ491, st491⟩ := own_callS X484 hx hZ (y := (⟨"com/example/tasdik/tasdik/core/cbor/CborValue", "byteString", "([B)Lcom/example/tasdik/tasdik/core/cbor/CborValue;"⟩ : MethodName)) hown (hw _ (List.mem_of_getElem? (i := 5) rfl)) (hw _ (List.mem_of_getElem? (i := 6) rfl)) (hw _ (List.mem_of_getElem? (i := 7) rfl)) (hw _ (List.mem_of_getElem? (i := 8) rfl)) own_lm_134 (rmB l Z a0 hw [] w0 wl wp mr hS r_472 T484.heap n0 O492 ) rfl own_pd_273 (argsL := [(.ref r_472)]) (rest := []) rfl rfl (g := (mkF m 48 #[.val (.int n), .val (.int x1), .val (.int y1), .val (.int z1), .val (.int (2 : Int32)), .val (.ref r_465), .val (.ref r_472), .val (.ref r_479), .val (.ref r_486), .unset, .unset, .unset] [(.ref r_472)])) rfl (by rw [hml]; rfl) rfl (hb hby at_48) (W := 0) rfl (by decide) (by decide) (by decide) (by decide)
    obtain ⟨r_493, rfl, M491, K491, z494, F495, F496, F497⟩ := hQ491
    have N491 := Fr.app N484 M491
    refine own_st (fun u_ k_ => st491 u_ k_) ?_
    show own_Go p e below _ (T491.setTop (mkF m 51 #[.val (.int n), .val (.int x1), .val (.int y1), .val (.int z1), .val (.int (2 : Int32)), .val (.ref r_465), .val (.ref r_472), .val (.ref r_479), .val (.ref r_486), .unset, .unset, .unset] [(.ref r_493)]))
    refine own_st (fun u_ k_ => XS.astore X491.here hx rfl (hb hby at_51) rfl rfl (l' := #[.val (.int n), .val (.int x1), .val (.int y1), .val (.int z1), .val (.int (2 : Int32)), .val (.ref r_465), .val (.ref r_472), .val (.ref r_479), .val (.ref r_486), .val (.ref r_493), .unset, .unset]) rfl k_) ?_
    show own_Go p e below _ (T491.setTop (mkF m 53 #[.val (.int n), .val (.int x1), .val (.int y1), .val (.int z1), .val (.int (2 : Int32)), .val (.ref r_465), .val (.ref r_472), .val (.ref r_479), .val (.ref r_486), .val (.ref r_493), .unset, .unset] []))
    refine own_st (fun u_ k_ => XS.aload X491.here hx rfl (hb hby at_53) rfl rfl k_) ?_
    show own_Go p e below _ (T491.setTop (mkF m 55 #[.val (.int n), .val (.int x1), .val (.int y1), .val (.int z1), .val (.int (2 : Int32)), .val (.ref r_465), .val (.ref r_472), .val (.ref r_479), .val (.ref r_486), .val (.ref r_493), .unset, .unset] [(.ref r_479)]))
    have O499 : Old Z n0 T491.heap := O492.keep K491 all0
    obtain ⟨T498, v498, L498, X498, hQ498, st498⟩ := own_callS X491 hx hZ (y := (⟨"com/example/tasdik/tasdik/core/cbor/CborValue", "byteString", "([B)Lcom/example/tasdik/tasdik/core/cbor/CborValue;"⟩ : MethodName)) hown (hw _ (List.mem_of_getElem? (i := 5) rfl)) (hw _ (List.mem_of_getElem? (i := 6) rfl)) (hw _ (List.mem_of_getElem? (i := 7) rfl)) (hw _ (List.mem_of_getElem? (i := 8) rfl)) own_lm_134 (rmB l Z a0 hw [] w0 wl wp mr hS r_479 T491.heap n0 O499 ) rfl own_pd_273 (argsL := [(.ref r_479)]) (rest := []) rfl rfl (g := (mkF m 55 #[.val (.int n), .val (.int x1), .val (.int y1), .val (.int z1), .val (.int (2 : Int32)), .val (.ref r_465), .val (.ref r_472), .val (.ref r_479), .val (.ref r_486), .val (.ref r_493), .unset, .unset] [(.ref r_479)])) rfl (by rw [hml]; rfl) rfl (hb hby at_55) (W := 0) rfl (by decide) (by decide) (by decide) (by decide)
    obtain ⟨r_500, rfl, M498, K498, z501, F502, F503, F504⟩ := hQ498
    have N498 := Fr.app N491 M498
    refine own_st (fun u_ k_ => st498 u_ k_) ?_
    show own_Go p e below _ (T498.setTop (mkF m 58 #[.val (.int n), .val (.int x1), .val (.int y1), .val (.int z1), .val (.int (2 : Int32)), .val (.ref r_465), .val (.ref r_472), .val (.ref r_479), .val (.ref r_486), .val (.ref r_493), .unset, .unset] [(.ref r_500)]))
    refine own_st (fun u_ k_ => XS.astore X498.here hx rfl (hb hby at_58) rfl rfl (l' := #[.val (.int n), .val (.int x1), .val (.int y1), .val (.int z1), .val (.int (2 : Int32)), .val (.ref r_465), .val (.ref r_472), .val (.ref r_479), .val (.ref r_486), .val (.ref r_493), .val (.ref r_500), .unset]) rfl k_) ?_
    show own_Go p e below _ (T498.setTop (mkF m 60 #[.val (.int n), .val (.int x1), .val (.int y1), .val (.int z1), .val (.int (2 : Int32)), .val (.ref r_465), .val (.ref r_472), .val (.ref r_479), .val (.ref r_486), .val (.ref r_493), .val (.ref r_500), .unset] []))
    refine own_st (fun u_ k_ => XS.aload X498.here hx rfl (hb hby at_60) rfl rfl k_) ?_
    show own_Go p e below _ (T498.setTop (mkF m 62 #[.val (.int n), .val (.int x1), .val (.int y1), .val (.int z1), .val (.int (2 : Int32)), .val (.ref r_465), .val (.ref r_472), .val (.ref r_479), .val (.ref r_486), .val (.ref r_493), .val (.ref r_500), .unset] [(.ref r_486)]))
    have F505 : Fld Z T498.heap r_486 "com/example/tasdik/tasdik/core/cbor/CborValue" "type" "Lcom/example/tasdik/tasdik/core/cbor/CborValue$Type;" (.ref w0) := ((F489.keep K491 nin0).keep K498 nin0)
    have O507 : Old Z n0 T498.heap := O499.keep K498 all0
    have F508 : Exa Z T498.heap r_486 "com/example/tasdik/tasdik/core/cbor/CborValue" := ((F488.keep K491).keep K498)
    obtain ⟨T506, v506, L506, X506, hQ506, st506⟩ := own_callV X498 hx hZ (y := (⟨"com/example/tasdik/tasdik/core/cbor/CborValue", "type", "()Lcom/example/tasdik/tasdik/core/cbor/CborValue$Type;"⟩ : MethodName)) (z := (⟨"com/example/tasdik/tasdik/core/cbor/CborValue", "type", "()Lcom/example/tasdik/tasdik/core/cbor/CborValue$Type;"⟩ : MethodName)) hown (hw _ (List.mem_of_getElem? (i := 45) rfl)) (hw _ (List.mem_of_getElem? (i := 46) rfl)) (notFace_of_selects (args := #[]) (mvT hZ (hw _ (List.mem_of_getElem? (i := 48) rfl)))) (hw _ (List.mem_of_getElem? (i := 48) rfl)) (hw _ (List.mem_of_getElem? (i := 47) rfl)) (hw _ (List.mem_of_getElem? (i := 7) rfl)) (hw _ (List.mem_of_getElem? (i := 49) rfl)) own_lm_134 (rmT l Z a0 hw [] w0 wl wp mr hS r_486 w0 T498.heap n0 O507 F505) rfl F508 own_pd_274 (argsL := []) (rest := []) rfl rfl (g := (mkF m 62 #[.val (.int n), .val (.int x1), .val (.int y1), .val (.int z1), .val (.int (2 : Int32)), .val (.ref r_465), .val (.ref r_472), .val (.ref r_479), .val (.ref r_486), .val (.ref r_493), .val (.ref r_500), .unset] [(.ref r_486)])) rfl (by rw [hml]; rfl) rfl (hb hby at_62) (W := 0) rfl (by decide) (by decide) (by decide) (by decide)
    obtain ⟨rfl, M506, e506⟩ := hQ506
    have N506 := Fr.app N498 M506
    refine own_st (fun u_ k_ => st506 u_ k_) ?_
    show own_Go p e below _ (T506.setTop (mkF m 65 #[.val (.int n), .val (.int x1), .val (.int y1), .val (.int z1), .val (.int (2 : Int32)), .val (.ref r_465), .val (.ref r_472), .val (.ref r_479), .val (.ref r_486), .val (.ref r_493), .val (.ref r_500), .unset] [(.ref w0)]))
    have F509 : Sta Z T498.heap "com/example/tasdik/tasdik/core/cbor/CborValue$Type" "BYTE_STRING" "Lcom/example/tasdik/tasdik/core/cbor/CborValue$Type;" (.ref w0) := Sta.ext O507.2 hS.1
    obtain ⟨T510, X510, e510, st510⟩ := getS2 X506 hx hZ hown (host := "") (Or.inl (hw _ (List.mem_of_getElem? (i := 50) rfl))) Via.refl e506 F509 (g := (mkF m 65 #[.val (.int n), .val (.int x1), .val (.int y1), .val (.int z1), .val (.int (2 : Int32)), .val (.ref r_465), .val (.ref r_472), .val (.ref r_479), .val (.ref r_486), .val (.ref r_493), .val (.ref r_500), .unset] [(.ref w0)])) rfl (hb hby at_65)
    refine own_st (fun u_ k_ => st510 u_ k_) ?_
    show own_Go p e below _ (T510.setTop (mkF m 68 #[.val (.int n), .val (.int x1), .val (.int y1), .val (.int z1), .val (.int (2 : Int32)), .val (.ref r_465), .val (.ref r_472), .val (.ref r_479), .val (.ref r_486), .val (.ref r_493), .val (.ref r_500), .unset] [(.ref w0), (.ref w0)]))
    refine own_st (fun u_ k_ => XT.acmpYes X510.here hx rfl (pc0 := 68) (pc' := 73) rfl (hb hby at_68) rfl rfl rfl (XT.aa_eq_t rfl) (by decide) (by decide) k_) ?_
    show own_Go p e below _ (T510.setTop (mkF m 73 #[.val (.int n), .val (.int x1), .val (.int y1), .val (.int z1), .val (.int (2 : Int32)), .val (.ref r_465), .val (.ref r_472), .val (.ref r_479), .val (.ref r_486), .val (.ref r_493), .val (.ref r_500), .unset] []))
    refine own_st (fun u_ k_ => XS.aload X510.here hx rfl (hb hby at_73) rfl rfl k_) ?_
    show own_Go p e below _ (T510.setTop (mkF m 75 #[.val (.int n), .val (.int x1), .val (.int y1), .val (.int z1), .val (.int (2 : Int32)), .val (.ref r_465), .val (.ref r_472), .val (.ref r_479), .val (.ref r_486), .val (.ref r_493), .val (.ref r_500), .unset] [(.ref r_486)]))
    have F511 : Fld Z T498.heap r_486 "com/example/tasdik/tasdik/core/cbor/CborValue" "bytes" "[B" (.ref r_465) := ((F490.keep K491 nin0).keep K498 nin0)
    have F512 : Arv Z T498.heap r_465 kr_466 .byte (2 : Int32) [(.int (x1.toInt8.toInt32)), (.int (y1.toInt8.toInt32))] (.int (0 : Int32)) := (((((F468.keep K470 nin0).keep K477 nin0).keep K484 nin0).keep K491 nin0).keep K498 nin0)
    have F513 : Exa Z T498.heap r_465 "[B" := (((((F469.keep K470).keep K477).keep K484).keep K491).keep K498)
    obtain ⟨T514, v514, L514, X514, hQ514, st514⟩ := own_callV X510 hx hZ (y := (⟨"com/example/tasdik/tasdik/core/cbor/CborValue", "bytes", "()[B"⟩ : MethodName)) (z := (⟨"com/example/tasdik/tasdik/core/cbor/CborValue", "bytes", "()[B"⟩ : MethodName)) hown (hw _ (List.mem_of_getElem? (i := 51) rfl)) (hw _ (List.mem_of_getElem? (i := 52) rfl)) (notFace_of_selects (args := #[]) (mvT hZ (hw _ (List.mem_of_getElem? (i := 54) rfl)))) (hw _ (List.mem_of_getElem? (i := 54) rfl)) (hw _ (List.mem_of_getElem? (i := 53) rfl)) (hw _ (List.mem_of_getElem? (i := 7) rfl)) (hw _ (List.mem_of_getElem? (i := 55) rfl)) own_lm_134 (rmY2 l Z a0 hw [] w0 wl wp mr hS r_486 r_465 kr_466 (x1.toInt8.toInt32) (y1.toInt8.toInt32) T498.heap n0 O507 F508 F505 F511 F512 F513) e510 F508 own_pd_275 (argsL := []) (rest := []) rfl rfl (g := (mkF m 75 #[.val (.int n), .val (.int x1), .val (.int y1), .val (.int z1), .val (.int (2 : Int32)), .val (.ref r_465), .val (.ref r_472), .val (.ref r_479), .val (.ref r_486), .val (.ref r_493), .val (.ref r_500), .unset] [(.ref r_486)])) rfl (by rw [hml]; rfl) rfl (hb hby at_75) (W := 0) rfl (by decide) (by decide) (by decide) (by decide)
    obtain ⟨r_515, kr_516, rfl, M514, K514, z517, F518, F519⟩ := hQ514
    have N514 := Fr.app N506 M514
    refine own_st (fun u_ k_ => st514 u_ k_) ?_
    show own_Go p e below _ (T514.setTop (mkF m 78 #[.val (.int n), .val (.int x1), .val (.int y1), .val (.int z1), .val (.int (2 : Int32)), .val (.ref r_465), .val (.ref r_472), .val (.ref r_479), .val (.ref r_486), .val (.ref r_493), .val (.ref r_500), .unset] [(.ref r_515)]))
    refine own_st (fun u_ k_ => XS.astore X514.here hx rfl (hb hby at_78) rfl rfl (l' := #[.val (.int n), .val (.int x1), .val (.int y1), .val (.int z1), .val (.int (2 : Int32)), .val (.ref r_465), .val (.ref r_472), .val (.ref r_479), .val (.ref r_486), .val (.ref r_493), .val (.ref r_500), .val (.ref r_515)]) rfl k_) ?_
    show own_Go p e below _ (T514.setTop (mkF m 80 #[.val (.int n), .val (.int x1), .val (.int y1), .val (.int z1), .val (.int (2 : Int32)), .val (.ref r_465), .val (.ref r_472), .val (.ref r_479), .val (.ref r_486), .val (.ref r_493), .val (.ref r_500), .val (.ref r_515)] []))
    refine own_st (fun u_ k_ => XS.aload X514.here hx rfl (hb hby at_80) rfl rfl k_) ?_
    show own_Go p e below _ (T514.setTop (mkF m 82 #[.val (.int n), .val (.int x1), .val (.int y1), .val (.int z1), .val (.int (2 : Int32)), .val (.ref r_465), .val (.ref r_472), .val (.ref r_479), .val (.ref r_486), .val (.ref r_493), .val (.ref r_500), .val (.ref r_515)] [(.ref r_515)]))
    obtain ⟨cl520, Ar520, -, S520, N520, -, -⟩ := id F518
    refine own_st (X514.arraylength hx Ar520.1 (State.isArrayOf_alike hZ.alike Ar520.2.1) (g := (mkF m 82 #[.val (.int n), .val (.int x1), .val (.int y1), .val (.int z1), .val (.int (2 : Int32)), .val (.ref r_465), .val (.ref r_472), .val (.ref r_479), .val (.ref r_486), .val (.ref r_493), .val (.ref r_500), .val (.ref r_515)] [(.ref r_515)])) rfl rfl (hb hby at_82)) ?_
    rw [len_of S520 N520]
    show own_Go p e below _ (T514.setTop (mkF m 83 #[.val (.int n), .val (.int x1), .val (.int y1), .val (.int z1), .val (.int (2 : Int32)), .val (.ref r_465), .val (.ref r_472), .val (.ref r_479), .val (.ref r_486), .val (.ref r_493), .val (.ref r_500), .val (.ref r_515)] [(.int (2 : Int32))]))
    refine own_st (fun u_ k_ => XS.iload X514.here hx rfl (hb hby at_83) rfl k_) ?_
    show own_Go p e below _ (T514.setTop (mkF m 85 #[.val (.int n), .val (.int x1), .val (.int y1), .val (.int z1), .val (.int (2 : Int32)), .val (.ref r_465), .val (.ref r_472), .val (.ref r_479), .val (.ref r_486), .val (.ref r_493), .val (.ref r_500), .val (.ref r_515)] [(.int (2 : Int32)), (.int (2 : Int32))]))
    refine own_st (fun u_ k_ => XS.icmpYes X514.here hx rfl (pc0 := 85) (pc' := 90) rfl (hb hby at_85) rfl (XT.ii_eq_t (by decide)) (by decide) (by decide) k_) ?_
    show own_Go p e below _ (T514.setTop (mkF m 90 #[.val (.int n), .val (.int x1), .val (.int y1), .val (.int z1), .val (.int (2 : Int32)), .val (.ref r_465), .val (.ref r_472), .val (.ref r_479), .val (.ref r_486), .val (.ref r_493), .val (.ref r_500), .val (.ref r_515)] []))
    refine own_st (fun u_ k_ => XS.iload X514.here hx rfl (hb hby at_90) rfl k_) ?_
    show own_Go p e below _ (T514.setTop (mkF m 92 #[.val (.int n), .val (.int x1), .val (.int y1), .val (.int z1), .val (.int (2 : Int32)), .val (.ref r_465), .val (.ref r_472), .val (.ref r_479), .val (.ref r_486), .val (.ref r_493), .val (.ref r_500), .val (.ref r_515)] [(.int (2 : Int32))]))
    refine own_st (fun u_ k_ => XS.ifNo X514.here hx rfl (hb hby at_92) rfl (XT.i0_le_f (by decide)) k_) ?_
    show own_Go p e below _ (T514.setTop (mkF m 95 #[.val (.int n), .val (.int x1), .val (.int y1), .val (.int z1), .val (.int (2 : Int32)), .val (.ref r_465), .val (.ref r_472), .val (.ref r_479), .val (.ref r_486), .val (.ref r_493), .val (.ref r_500), .val (.ref r_515)] []))
    refine own_st (fun u_ k_ => XS.aload X514.here hx rfl (hb hby at_95) rfl rfl k_) ?_
    show own_Go p e below _ (T514.setTop (mkF m 97 #[.val (.int n), .val (.int x1), .val (.int y1), .val (.int z1), .val (.int (2 : Int32)), .val (.ref r_465), .val (.ref r_472), .val (.ref r_479), .val (.ref r_486), .val (.ref r_493), .val (.ref r_500), .val (.ref r_515)] [(.ref r_515)]))
    refine own_st (fun u_ k_ => XS.iconst X514.here hx rfl (hb hby at_97) k_) ?_
    show own_Go p e below _ (T514.setTop (mkF m 98 #[.val (.int n), .val (.int x1), .val (.int y1), .val (.int z1), .val (.int (2 : Int32)), .val (.ref r_465), .val (.ref r_472), .val (.ref r_479), .val (.ref r_486), .val (.ref r_493), .val (.ref r_500), .val (.ref r_515)] [(.int (0 : Int32)), (.ref r_515)]))
    obtain ⟨cl521, Ar521, q521, S521, N521, H521, G521⟩ := id F518
    have hi521 : ¬ ((0 : Int32) < 0 ∨ cl521.slots.size ≤ ((0 : Int32)).toNatClampNeg) := inb_of S521 ⟨by decide, by decide⟩
    have ha521 : cl521.slots[((0 : Int32)).toNatClampNeg]? = some (.int (x1.toInt8.toInt32)) := H521.at hi521 rfl
    refine own_st (X514.baloadBytes hx (j := (0 : Int32)) (v := (.int (x1.toInt8.toInt32))) Ar521.1 (State.isArrayOf_alike hZ.alike Ar521.2.1) Ar521.2.2 hi521 ha521 (g := (mkF m 98 #[.val (.int n), .val (.int x1), .val (.int y1), .val (.int z1), .val (.int (2 : Int32)), .val (.ref r_465), .val (.ref r_472), .val (.ref r_479), .val (.ref r_486), .val (.ref r_493), .val (.ref r_500), .val (.ref r_515)] [(.int (0 : Int32)), (.ref r_515)])) rfl rfl (hb hby at_98)) ?_
    show own_Go p e below _ (T514.setTop (mkF m 99 #[.val (.int n), .val (.int x1), .val (.int y1), .val (.int z1), .val (.int (2 : Int32)), .val (.ref r_465), .val (.ref r_472), .val (.ref r_479), .val (.ref r_486), .val (.ref r_493), .val (.ref r_500), .val (.ref r_515)] [(.int (x1.toInt8.toInt32))]))
    refine own_st (fun u_ k_ => XS.iloadN X514.here hx rfl (hb hby at_99) rfl k_) ?_
    show own_Go p e below _ (T514.setTop (mkF m 100 #[.val (.int n), .val (.int x1), .val (.int y1), .val (.int z1), .val (.int (2 : Int32)), .val (.ref r_465), .val (.ref r_472), .val (.ref r_479), .val (.ref r_486), .val (.ref r_493), .val (.ref r_500), .val (.ref r_515)] [(.int x1), (.int (x1.toInt8.toInt32))]))
    refine own_st (fun u_ k_ => XS.i2b X514.here hx rfl (hb hby at_100) rfl k_) ?_
    show own_Go p e below _ (T514.setTop (mkF m 101 #[.val (.int n), .val (.int x1), .val (.int y1), .val (.int z1), .val (.int (2 : Int32)), .val (.ref r_465), .val (.ref r_472), .val (.ref r_479), .val (.ref r_486), .val (.ref r_493), .val (.ref r_500), .val (.ref r_515)] [(.int (x1.toInt8.toInt32)), (.int (x1.toInt8.toInt32))]))
    refine own_st (fun u_ k_ => XS.icmpYes X514.here hx rfl (pc0 := 101) (pc' := 106) rfl (hb hby at_101) rfl (XT.ii_eq_t rfl) (by decide) (by decide) k_) ?_
    show own_Go p e below _ (T514.setTop (mkF m 106 #[.val (.int n), .val (.int x1), .val (.int y1), .val (.int z1), .val (.int (2 : Int32)), .val (.ref r_465), .val (.ref r_472), .val (.ref r_479), .val (.ref r_486), .val (.ref r_493), .val (.ref r_500), .val (.ref r_515)] []))
    refine own_st (fun u_ k_ => XS.iload X514.here hx rfl (hb hby at_106) rfl k_) ?_
    show own_Go p e below _ (T514.setTop (mkF m 108 #[.val (.int n), .val (.int x1), .val (.int y1), .val (.int z1), .val (.int (2 : Int32)), .val (.ref r_465), .val (.ref r_472), .val (.ref r_479), .val (.ref r_486), .val (.ref r_493), .val (.ref r_500), .val (.ref r_515)] [(.int (2 : Int32))]))
    refine own_st (fun u_ k_ => XS.iconst X514.here hx rfl (hb hby at_108) k_) ?_
    show own_Go p e below _ (T514.setTop (mkF m 109 #[.val (.int n), .val (.int x1), .val (.int y1), .val (.int z1), .val (.int (2 : Int32)), .val (.ref r_465), .val (.ref r_472), .val (.ref r_479), .val (.ref r_486), .val (.ref r_493), .val (.ref r_500), .val (.ref r_515)] [(.int (1 : Int32)), (.int (2 : Int32))]))
    refine own_st (fun u_ k_ => XS.icmpNo X514.here hx rfl (hb hby at_109) rfl (XT.ii_le_f (by decide)) k_) ?_
    show own_Go p e below _ (T514.setTop (mkF m 112 #[.val (.int n), .val (.int x1), .val (.int y1), .val (.int z1), .val (.int (2 : Int32)), .val (.ref r_465), .val (.ref r_472), .val (.ref r_479), .val (.ref r_486), .val (.ref r_493), .val (.ref r_500), .val (.ref r_515)] []))
    refine own_st (fun u_ k_ => XS.aload X514.here hx rfl (hb hby at_112) rfl rfl k_) ?_
    show own_Go p e below _ (T514.setTop (mkF m 114 #[.val (.int n), .val (.int x1), .val (.int y1), .val (.int z1), .val (.int (2 : Int32)), .val (.ref r_465), .val (.ref r_472), .val (.ref r_479), .val (.ref r_486), .val (.ref r_493), .val (.ref r_500), .val (.ref r_515)] [(.ref r_515)]))
    refine own_st (fun u_ k_ => XS.iconst X514.here hx rfl (hb hby at_114) k_) ?_
    show own_Go p e below _ (T514.setTop (mkF m 115 #[.val (.int n), .val (.int x1), .val (.int y1), .val (.int z1), .val (.int (2 : Int32)), .val (.ref r_465), .val (.ref r_472), .val (.ref r_479), .val (.ref r_486), .val (.ref r_493), .val (.ref r_500), .val (.ref r_515)] [(.int (1 : Int32)), (.ref r_515)]))
    obtain ⟨cl522, Ar522, q522, S522, N522, H522, G522⟩ := id F518
    have hi522 : ¬ ((1 : Int32) < 0 ∨ cl522.slots.size ≤ ((1 : Int32)).toNatClampNeg) := inb_of S522 ⟨by decide, by decide⟩
    have ha522 : cl522.slots[((1 : Int32)).toNatClampNeg]? = some (.int (y1.toInt8.toInt32)) := H522.at hi522 rfl
    refine own_st (X514.baloadBytes hx (j := (1 : Int32)) (v := (.int (y1.toInt8.toInt32))) Ar522.1 (State.isArrayOf_alike hZ.alike Ar522.2.1) Ar522.2.2 hi522 ha522 (g := (mkF m 115 #[.val (.int n), .val (.int x1), .val (.int y1), .val (.int z1), .val (.int (2 : Int32)), .val (.ref r_465), .val (.ref r_472), .val (.ref r_479), .val (.ref r_486), .val (.ref r_493), .val (.ref r_500), .val (.ref r_515)] [(.int (1 : Int32)), (.ref r_515)])) rfl rfl (hb hby at_115)) ?_
    show own_Go p e below _ (T514.setTop (mkF m 116 #[.val (.int n), .val (.int x1), .val (.int y1), .val (.int z1), .val (.int (2 : Int32)), .val (.ref r_465), .val (.ref r_472), .val (.ref r_479), .val (.ref r_486), .val (.ref r_493), .val (.ref r_500), .val (.ref r_515)] [(.int (y1.toInt8.toInt32))]))
    refine own_st (fun u_ k_ => XS.iloadN X514.here hx rfl (hb hby at_116) rfl k_) ?_
    show own_Go p e below _ (T514.setTop (mkF m 117 #[.val (.int n), .val (.int x1), .val (.int y1), .val (.int z1), .val (.int (2 : Int32)), .val (.ref r_465), .val (.ref r_472), .val (.ref r_479), .val (.ref r_486), .val (.ref r_493), .val (.ref r_500), .val (.ref r_515)] [(.int y1), (.int (y1.toInt8.toInt32))]))
    refine own_st (fun u_ k_ => XS.i2b X514.here hx rfl (hb hby at_117) rfl k_) ?_
    show own_Go p e below _ (T514.setTop (mkF m 118 #[.val (.int n), .val (.int x1), .val (.int y1), .val (.int z1), .val (.int (2 : Int32)), .val (.ref r_465), .val (.ref r_472), .val (.ref r_479), .val (.ref r_486), .val (.ref r_493), .val (.ref r_500), .val (.ref r_515)] [(.int (y1.toInt8.toInt32)), (.int (y1.toInt8.toInt32))]))
    refine own_st (fun u_ k_ => XS.icmpYes X514.here hx rfl (pc0 := 118) (pc' := 123) rfl (hb hby at_118) rfl (XT.ii_eq_t rfl) (by decide) (by decide) k_) ?_
    show own_Go p e below _ (T514.setTop (mkF m 123 #[.val (.int n), .val (.int x1), .val (.int y1), .val (.int z1), .val (.int (2 : Int32)), .val (.ref r_465), .val (.ref r_472), .val (.ref r_479), .val (.ref r_486), .val (.ref r_493), .val (.ref r_500), .val (.ref r_515)] []))
    refine own_st (fun u_ k_ => XS.iload X514.here hx rfl (hb hby at_123) rfl k_) ?_
    show own_Go p e below _ (T514.setTop (mkF m 125 #[.val (.int n), .val (.int x1), .val (.int y1), .val (.int z1), .val (.int (2 : Int32)), .val (.ref r_465), .val (.ref r_472), .val (.ref r_479), .val (.ref r_486), .val (.ref r_493), .val (.ref r_500), .val (.ref r_515)] [(.int (2 : Int32))]))
    refine own_st (fun u_ k_ => XS.iconst X514.here hx rfl (hb hby at_125) k_) ?_
    show own_Go p e below _ (T514.setTop (mkF m 126 #[.val (.int n), .val (.int x1), .val (.int y1), .val (.int z1), .val (.int (2 : Int32)), .val (.ref r_465), .val (.ref r_472), .val (.ref r_479), .val (.ref r_486), .val (.ref r_493), .val (.ref r_500), .val (.ref r_515)] [(.int (2 : Int32)), (.int (2 : Int32))]))
    refine own_st (fun u_ k_ => XS.icmpYes X514.here hx rfl (pc0 := 126) (pc' := 140) rfl (hb hby at_126) rfl (XT.ii_le_t (by decide)) (by decide) (by decide) k_) ?_
    show own_Go p e below _ (T514.setTop (mkF m 140 #[.val (.int n), .val (.int x1), .val (.int y1), .val (.int z1), .val (.int (2 : Int32)), .val (.ref r_465), .val (.ref r_472), .val (.ref r_479), .val (.ref r_486), .val (.ref r_493), .val (.ref r_500), .val (.ref r_515)] []))
    refine own_st (fun u_ k_ => XS.aload X514.here hx rfl (hb hby at_140) rfl rfl k_) ?_
    show own_Go p e below _ (T514.setTop (mkF m 142 #[.val (.int n), .val (.int x1), .val (.int y1), .val (.int z1), .val (.int (2 : Int32)), .val (.ref r_465), .val (.ref r_472), .val (.ref r_479), .val (.ref r_486), .val (.ref r_493), .val (.ref r_500), .val (.ref r_515)] [(.ref r_486)]))
    refine own_st (fun u_ k_ => XS.aload X514.here hx rfl (hb hby at_142) rfl rfl k_) ?_
    show own_Go p e below _ (T514.setTop (mkF m 144 #[.val (.int n), .val (.int x1), .val (.int y1), .val (.int z1), .val (.int (2 : Int32)), .val (.ref r_465), .val (.ref r_472), .val (.ref r_479), .val (.ref r_486), .val (.ref r_493), .val (.ref r_500), .val (.ref r_515)] [(.ref r_493), (.ref r_486)]))
    have F523 : Exa Z T514.heap r_486 "com/example/tasdik/tasdik/core/cbor/CborValue" := (F508.keep K514)
    have F524 : Exa Z T514.heap r_493 "com/example/tasdik/tasdik/core/cbor/CborValue" := ((F495.keep K498).keep K514)
    have F525 : Fld Z T514.heap r_486 "com/example/tasdik/tasdik/core/cbor/CborValue" "type" "Lcom/example/tasdik/tasdik/core/cbor/CborValue$Type;" (.ref w0) := (F505.keep K514 nin0)
    have F526 : Fld Z T514.heap r_493 "com/example/tasdik/tasdik/core/cbor/CborValue" "type" "Lcom/example/tasdik/tasdik/core/cbor/CborValue$Type;" (.ref w0) := ((F496.keep K498 nin0).keep K514 nin0)
    have F527 : Fld Z T514.heap r_486 "com/example/tasdik/tasdik/core/cbor/CborValue" "bytes" "[B" (.ref r_465) := (F511.keep K514 nin0)
    have F528 : Fld Z T514.heap r_493 "com/example/tasdik/tasdik/core/cbor/CborValue" "bytes" "[B" (.ref r_472) := ((F497.keep K498 nin0).keep K514 nin0)
    have F529 : Arv Z T514.heap r_465 kr_466 .byte (2 : Int32) [(.int (x1.toInt8.toInt32)), (.int (y1.toInt8.toInt32))] (.int (0 : Int32)) := (F512.keep K514 nin0)
    have F530 : Arv Z T514.heap r_472 kr_473 .byte (2 : Int32) [(.int (x1.toInt8.toInt32)), (.int (y1.toInt8.toInt32))] (.int (0 : Int32)) := (((((F475.keep K477 nin0).keep K484 nin0).keep K491 nin0).keep K498 nin0).keep K514 nin0)
    have ne531 : r_465 ≠ r_472 := (Nat.ne_of_lt (Nat.lt_of_lt_of_le F468.lt z474))
    have O533 : Old Z n0 T514.heap := O507.keep K514 all0
    obtain ⟨T532, v532, L532, X532, hQ532, st532⟩ := own_callV X514 hx hZ (y := (⟨"com/example/tasdik/tasdik/core/cbor/CborValue", "equals", "(Ljava/lang/Object;)Z"⟩ : MethodName)) (z := (⟨"com/example/tasdik/tasdik/core/cbor/CborValue", "equals", "(Ljava/lang/Object;)Z"⟩ : MethodName)) hown (hw _ (List.mem_of_getElem? (i := 69) rfl)) (hw _ (List.mem_of_getElem? (i := 70) rfl)) (notFace_of_selects (args := #[]) (mvT hZ (hw _ (List.mem_of_getElem? (i := 72) rfl)))) (hw _ (List.mem_of_getElem? (i := 72) rfl)) (hw _ (List.mem_of_getElem? (i := 71) rfl)) (hw _ (List.mem_of_getElem? (i := 7) rfl)) (hw _ (List.mem_of_getElem? (i := 73) rfl)) own_lm_134 (rmE2_2 l Z a0 hw [] w0 wl wp mr hS r_486 r_493 r_465 r_472 kr_466 kr_473 (x1.toInt8.toInt32) (y1.toInt8.toInt32) T514.heap n0 O533 F523 F524 F525 F526 F527 F528 F529 F530 ne531) rfl F523 own_pd_276 (argsL := [(.ref r_493)]) (rest := []) rfl rfl (g := (mkF m 144 #[.val (.int n), .val (.int x1), .val (.int y1), .val (.int z1), .val (.int (2 : Int32)), .val (.ref r_465), .val (.ref r_472), .val (.ref r_479), .val (.ref r_486), .val (.ref r_493), .val (.ref r_500), .val (.ref r_515)] [(.ref r_493), (.ref r_486)])) rfl (by rw [hml]; rfl) rfl (hb hby at_144) (W := 0) rfl (by decide) (by decide) (by decide) (by decide)
    obtain ⟨rfl, M532, e532⟩ := hQ532
    have N532 := Fr.app N514 M532
    refine own_st (fun u_ k_ => st532 u_ k_) ?_
    show own_Go p e below _ (T532.setTop (mkF m 147 #[.val (.int n), .val (.int x1), .val (.int y1), .val (.int z1), .val (.int (2 : Int32)), .val (.ref r_465), .val (.ref r_472), .val (.ref r_479), .val (.ref r_486), .val (.ref r_493), .val (.ref r_500), .val (.ref r_515)] [(.int (1 : Int32))]))
    refine own_st (fun u_ k_ => XS.ifNo X532.here hx rfl (hb hby at_147) rfl (XT.i0_eq_f (by decide)) k_) ?_
    show own_Go p e below _ (T532.setTop (mkF m 150 #[.val (.int n), .val (.int x1), .val (.int y1), .val (.int z1), .val (.int (2 : Int32)), .val (.ref r_465), .val (.ref r_472), .val (.ref r_479), .val (.ref r_486), .val (.ref r_493), .val (.ref r_500), .val (.ref r_515)] []))
    refine own_st (fun u_ k_ => XS.aload X532.here hx rfl (hb hby at_150) rfl rfl k_) ?_
    show own_Go p e below _ (T532.setTop (mkF m 152 #[.val (.int n), .val (.int x1), .val (.int y1), .val (.int z1), .val (.int (2 : Int32)), .val (.ref r_465), .val (.ref r_472), .val (.ref r_479), .val (.ref r_486), .val (.ref r_493), .val (.ref r_500), .val (.ref r_515)] [(.ref r_486)]))
    refine own_st (fun u_ k_ => XS.aload X532.here hx rfl (hb hby at_152) rfl rfl k_) ?_
    show own_Go p e below _ (T532.setTop (mkF m 154 #[.val (.int n), .val (.int x1), .val (.int y1), .val (.int z1), .val (.int (2 : Int32)), .val (.ref r_465), .val (.ref r_472), .val (.ref r_479), .val (.ref r_486), .val (.ref r_493), .val (.ref r_500), .val (.ref r_515)] [(.ref r_500), (.ref r_486)]))
    have F534 : Exa Z T514.heap r_500 "com/example/tasdik/tasdik/core/cbor/CborValue" := (F502.keep K514)
    have F535 : Fld Z T514.heap r_500 "com/example/tasdik/tasdik/core/cbor/CborValue" "type" "Lcom/example/tasdik/tasdik/core/cbor/CborValue$Type;" (.ref w0) := (F503.keep K514 nin0)
    have F536 : Fld Z T514.heap r_500 "com/example/tasdik/tasdik/core/cbor/CborValue" "bytes" "[B" (.ref r_479) := (F504.keep K514 nin0)
    have F537 : Arv Z T514.heap r_479 kr_480 .byte (3 : Int32) [(.int (x1.toInt8.toInt32)), (.int (y1.toInt8.toInt32)), (.int (z1.toInt8.toInt32))] (.int (0 : Int32)) := ((((F482.keep K484 nin0).keep K491 nin0).keep K498 nin0).keep K514 nin0)
    have ne538 : r_465 ≠ r_479 := (Nat.ne_of_lt (Nat.lt_of_lt_of_le (Nat.lt_of_lt_of_le F468.lt K470.1) z481))
    obtain ⟨T539, v539, L539, X539, hQ539, st539⟩ := own_callV X532 hx hZ (y := (⟨"com/example/tasdik/tasdik/core/cbor/CborValue", "equals", "(Ljava/lang/Object;)Z"⟩ : MethodName)) (z := (⟨"com/example/tasdik/tasdik/core/cbor/CborValue", "equals", "(Ljava/lang/Object;)Z"⟩ : MethodName)) hown (hw _ (List.mem_of_getElem? (i := 69) rfl)) (hw _ (List.mem_of_getElem? (i := 70) rfl)) (notFace_of_selects (args := #[]) (mvT hZ (hw _ (List.mem_of_getElem? (i := 72) rfl)))) (hw _ (List.mem_of_getElem? (i := 72) rfl)) (hw _ (List.mem_of_getElem? (i := 71) rfl)) (hw _ (List.mem_of_getElem? (i := 7) rfl)) (hw _ (List.mem_of_getElem? (i := 73) rfl)) own_lm_134 (rmE2_3 l Z a0 hw [] w0 wl wp mr hS r_486 r_500 r_465 r_479 kr_466 kr_480 (x1.toInt8.toInt32) (y1.toInt8.toInt32) (z1.toInt8.toInt32) T514.heap n0 O533 F523 F534 F525 F535 F527 F536 F529 F537 ne538) e532 F523 own_pd_276 (argsL := [(.ref r_500)]) (rest := []) rfl rfl (g := (mkF m 154 #[.val (.int n), .val (.int x1), .val (.int y1), .val (.int z1), .val (.int (2 : Int32)), .val (.ref r_465), .val (.ref r_472), .val (.ref r_479), .val (.ref r_486), .val (.ref r_493), .val (.ref r_500), .val (.ref r_515)] [(.ref r_500), (.ref r_486)])) rfl (by rw [hml]; rfl) rfl (hb hby at_154) (W := 0) rfl (by decide) (by decide) (by decide) (by decide)
    obtain ⟨rfl, M539, e539⟩ := hQ539
    have N539 := Fr.app N532 M539
    refine own_st (fun u_ k_ => st539 u_ k_) ?_
    show own_Go p e below _ (T539.setTop (mkF m 157 #[.val (.int n), .val (.int x1), .val (.int y1), .val (.int z1), .val (.int (2 : Int32)), .val (.ref r_465), .val (.ref r_472), .val (.ref r_479), .val (.ref r_486), .val (.ref r_493), .val (.ref r_500), .val (.ref r_515)] [(.int (0 : Int32))]))
    refine own_st (fun u_ k_ => XS.ifNo X539.here hx rfl (hb hby at_157) rfl (XT.i0_ne_f (by decide)) k_) ?_
    show own_Go p e below _ (T539.setTop (mkF m 160 #[.val (.int n), .val (.int x1), .val (.int y1), .val (.int z1), .val (.int (2 : Int32)), .val (.ref r_465), .val (.ref r_472), .val (.ref r_479), .val (.ref r_486), .val (.ref r_493), .val (.ref r_500), .val (.ref r_515)] []))
    refine own_st (fun u_ k_ => XS.iconst X539.here hx rfl (hb hby at_160) k_) ?_
    show own_Go p e below _ (T539.setTop (mkF m 161 #[.val (.int n), .val (.int x1), .val (.int y1), .val (.int z1), .val (.int (2 : Int32)), .val (.ref r_465), .val (.ref r_472), .val (.ref r_479), .val (.ref r_486), .val (.ref r_493), .val (.ref r_500), .val (.ref r_515)] [(.int (1 : Int32))]))
    refine own_st (fun u_ k_ => XS.goto X539.here hx rfl (pc0 := 161) (pc' := 165) rfl (hb hby at_161) (by decide) (by decide) k_) ?_
    show own_Go p e below _ (T539.setTop (mkF m 165 #[.val (.int n), .val (.int x1), .val (.int y1), .val (.int z1), .val (.int (2 : Int32)), .val (.ref r_465), .val (.ref r_472), .val (.ref r_479), .val (.ref r_486), .val (.ref r_493), .val (.ref r_500), .val (.ref r_515)] [(.int (1 : Int32))]))
    have K540 : Keep h0 T464.heap [] := (Keep.refl h0 []).trans K464 all0
    have K541 : Keep h0 T470.heap [] := K540.trans K470 all0
    have K542 : Keep h0 T477.heap [] := K541.trans K477 all0
    have K543 : Keep h0 T484.heap [] := K542.trans K484 all0
    have K544 : Keep h0 T491.heap [] := K543.trans K491 all0
    have K545 : Keep h0 T498.heap [] := K544.trans K498 all0
    have K546 : Keep h0 T514.heap [] := K545.trans K514 all0
    exact own_retX X539 hx hlk hret rfl (Or.inl ⟨rfl, by simp, _, rfl⟩) (hb hby at_165) (by decide) (by decide) (show Qrm0 Z w0 wl wp mr n x1 y1 z1 h0 n0 (some (.int (1 : Int32))) T539.heap _ from (by rw [e539]; exact ⟨rfl, N539, K546⟩))
  · rw [hj]
    show own_Go p e below _ (s₁.setTop (mkF m 3 #[.val (.int n), .val (.int x1), .val (.int y1), .val (.int z1), .unset, .unset, .unset, .unset, .unset, .unset, .unset, .unset] [(.int (3 : Int32))]))
    refine own_st (fun u_ k_ => XS.istore X0.here hx rfl (hb hby at_3) rfl (l' := #[.val (.int n), .val (.int x1), .val (.int y1), .val (.int z1), .val (.int (3 : Int32)), .unset, .unset, .unset, .unset, .unset, .unset, .unset]) rfl k_) ?_
    show own_Go p e below _ (s₁.setTop (mkF m 5 #[.val (.int n), .val (.int x1), .val (.int y1), .val (.int z1), .val (.int (3 : Int32)), .unset, .unset, .unset, .unset, .unset, .unset, .unset] []))
    refine own_st (fun u_ k_ => XS.iload X0.here hx rfl (hb hby at_5) rfl k_) ?_
    show own_Go p e below _ (s₁.setTop (mkF m 7 #[.val (.int n), .val (.int x1), .val (.int y1), .val (.int z1), .val (.int (3 : Int32)), .unset, .unset, .unset, .unset, .unset, .unset, .unset] [(.int (3 : Int32))]))
    refine own_st (fun u_ k_ => XS.iloadN X0.here hx rfl (hb hby at_7) rfl k_) ?_
    show own_Go p e below _ (s₁.setTop (mkF m 8 #[.val (.int n), .val (.int x1), .val (.int y1), .val (.int z1), .val (.int (3 : Int32)), .unset, .unset, .unset, .unset, .unset, .unset, .unset] [(.int x1), (.int (3 : Int32))]))
    refine own_st (fun u_ k_ => XS.iloadN X0.here hx rfl (hb hby at_8) rfl k_) ?_
    show own_Go p e below _ (s₁.setTop (mkF m 9 #[.val (.int n), .val (.int x1), .val (.int y1), .val (.int z1), .val (.int (3 : Int32)), .unset, .unset, .unset, .unset, .unset, .unset, .unset] [(.int y1), (.int x1), (.int (3 : Int32))]))
    refine own_st (fun u_ k_ => XS.iloadN X0.here hx rfl (hb hby at_9) rfl k_) ?_
    show own_Go p e below _ (s₁.setTop (mkF m 10 #[.val (.int n), .val (.int x1), .val (.int y1), .val (.int z1), .val (.int (3 : Int32)), .unset, .unset, .unset, .unset, .unset, .unset, .unset] [(.int z1), (.int y1), (.int x1), (.int (3 : Int32))]))
    obtain ⟨T547, v547, L547, X547, hQ547, st547⟩ := own_callS X0 hx hZ (y := (⟨"com/example/tasdik/tasdik/core/cbor/CborValueByteStringPinLaw", "make", "(IIII)[B"⟩ : MethodName)) hown (hw _ (List.mem_of_getElem? (i := 0) rfl)) (hw _ (List.mem_of_getElem? (i := 1) rfl)) (hw _ (List.mem_of_getElem? (i := 2) rfl)) (hw _ (List.mem_of_getElem? (i := 3) rfl)) own_lm_271 (rmK3 l Z a0 hw [] w0 wl wp mr hS x1 y1 z1 h0 n0 O0 ) e0 own_pd_272 (argsL := [(.int (3 : Int32)), (.int x1), (.int y1), (.int z1)]) (rest := []) rfl rfl (g := (mkF m 10 #[.val (.int n), .val (.int x1), .val (.int y1), .val (.int z1), .val (.int (3 : Int32)), .unset, .unset, .unset, .unset, .unset, .unset, .unset] [(.int z1), (.int y1), (.int x1), (.int (3 : Int32))])) rfl (by rw [hml]; rfl) rfl (hb hby at_10) (W := 0) rfl (by decide) (by decide) (by decide) (by decide)
    obtain ⟨r_548, kr_549, rfl, M547, K547, z550, F551, F552⟩ := hQ547
    have N547 := Fr.app N0 M547
    refine own_st (fun u_ k_ => st547 u_ k_) ?_
    show own_Go p e below _ (T547.setTop (mkF m 13 #[.val (.int n), .val (.int x1), .val (.int y1), .val (.int z1), .val (.int (3 : Int32)), .unset, .unset, .unset, .unset, .unset, .unset, .unset] [(.ref r_548)]))
    refine own_st (fun u_ k_ => XS.astore X547.here hx rfl (hb hby at_13) rfl rfl (l' := #[.val (.int n), .val (.int x1), .val (.int y1), .val (.int z1), .val (.int (3 : Int32)), .val (.ref r_548), .unset, .unset, .unset, .unset, .unset, .unset]) rfl k_) ?_
    show own_Go p e below _ (T547.setTop (mkF m 15 #[.val (.int n), .val (.int x1), .val (.int y1), .val (.int z1), .val (.int (3 : Int32)), .val (.ref r_548), .unset, .unset, .unset, .unset, .unset, .unset] []))
    refine own_st (fun u_ k_ => XS.iload X547.here hx rfl (hb hby at_15) rfl k_) ?_
    show own_Go p e below _ (T547.setTop (mkF m 17 #[.val (.int n), .val (.int x1), .val (.int y1), .val (.int z1), .val (.int (3 : Int32)), .val (.ref r_548), .unset, .unset, .unset, .unset, .unset, .unset] [(.int (3 : Int32))]))
    refine own_st (fun u_ k_ => XS.iloadN X547.here hx rfl (hb hby at_17) rfl k_) ?_
    show own_Go p e below _ (T547.setTop (mkF m 18 #[.val (.int n), .val (.int x1), .val (.int y1), .val (.int z1), .val (.int (3 : Int32)), .val (.ref r_548), .unset, .unset, .unset, .unset, .unset, .unset] [(.int x1), (.int (3 : Int32))]))
    refine own_st (fun u_ k_ => XS.iloadN X547.here hx rfl (hb hby at_18) rfl k_) ?_
    show own_Go p e below _ (T547.setTop (mkF m 19 #[.val (.int n), .val (.int x1), .val (.int y1), .val (.int z1), .val (.int (3 : Int32)), .val (.ref r_548), .unset, .unset, .unset, .unset, .unset, .unset] [(.int y1), (.int x1), (.int (3 : Int32))]))
    refine own_st (fun u_ k_ => XS.iloadN X547.here hx rfl (hb hby at_19) rfl k_) ?_
    show own_Go p e below _ (T547.setTop (mkF m 20 #[.val (.int n), .val (.int x1), .val (.int y1), .val (.int z1), .val (.int (3 : Int32)), .val (.ref r_548), .unset, .unset, .unset, .unset, .unset, .unset] [(.int z1), (.int y1), (.int x1), (.int (3 : Int32))]))
    have O554 : Old Z n0 T547.heap := O0.keep K547 all0
    obtain ⟨T553, v553, L553, X553, hQ553, st553⟩ := own_callS X547 hx hZ (y := (⟨"com/example/tasdik/tasdik/core/cbor/CborValueByteStringPinLaw", "make", "(IIII)[B"⟩ : MethodName)) hown (hw _ (List.mem_of_getElem? (i := 0) rfl)) (hw _ (List.mem_of_getElem? (i := 1) rfl)) (hw _ (List.mem_of_getElem? (i := 2) rfl)) (hw _ (List.mem_of_getElem? (i := 3) rfl)) own_lm_271 (rmK3 l Z a0 hw [] w0 wl wp mr hS x1 y1 z1 T547.heap n0 O554 ) rfl own_pd_272 (argsL := [(.int (3 : Int32)), (.int x1), (.int y1), (.int z1)]) (rest := []) rfl rfl (g := (mkF m 20 #[.val (.int n), .val (.int x1), .val (.int y1), .val (.int z1), .val (.int (3 : Int32)), .val (.ref r_548), .unset, .unset, .unset, .unset, .unset, .unset] [(.int z1), (.int y1), (.int x1), (.int (3 : Int32))])) rfl (by rw [hml]; rfl) rfl (hb hby at_20) (W := 0) rfl (by decide) (by decide) (by decide) (by decide)
    obtain ⟨r_555, kr_556, rfl, M553, K553, z557, F558, F559⟩ := hQ553
    have N553 := Fr.app N547 M553
    refine own_st (fun u_ k_ => st553 u_ k_) ?_
    show own_Go p e below _ (T553.setTop (mkF m 23 #[.val (.int n), .val (.int x1), .val (.int y1), .val (.int z1), .val (.int (3 : Int32)), .val (.ref r_548), .unset, .unset, .unset, .unset, .unset, .unset] [(.ref r_555)]))
    refine own_st (fun u_ k_ => XS.astore X553.here hx rfl (hb hby at_23) rfl rfl (l' := #[.val (.int n), .val (.int x1), .val (.int y1), .val (.int z1), .val (.int (3 : Int32)), .val (.ref r_548), .val (.ref r_555), .unset, .unset, .unset, .unset, .unset]) rfl k_) ?_
    show own_Go p e below _ (T553.setTop (mkF m 25 #[.val (.int n), .val (.int x1), .val (.int y1), .val (.int z1), .val (.int (3 : Int32)), .val (.ref r_548), .val (.ref r_555), .unset, .unset, .unset, .unset, .unset] []))
    refine own_st (fun u_ k_ => XS.iload X553.here hx rfl (hb hby at_25) rfl k_) ?_
    show own_Go p e below _ (T553.setTop (mkF m 27 #[.val (.int n), .val (.int x1), .val (.int y1), .val (.int z1), .val (.int (3 : Int32)), .val (.ref r_548), .val (.ref r_555), .unset, .unset, .unset, .unset, .unset] [(.int (3 : Int32))]))
    refine own_st (fun u_ k_ => XS.iconst X553.here hx rfl (hb hby at_27) k_) ?_
    show own_Go p e below _ (T553.setTop (mkF m 28 #[.val (.int n), .val (.int x1), .val (.int y1), .val (.int z1), .val (.int (3 : Int32)), .val (.ref r_548), .val (.ref r_555), .unset, .unset, .unset, .unset, .unset] [(.int (1 : Int32)), (.int (3 : Int32))]))
    refine own_st (fun u_ k_ => XS.iadd X553.here hx rfl (hb hby at_28) rfl k_) ?_
    show own_Go p e below _ (T553.setTop (mkF m 29 #[.val (.int n), .val (.int x1), .val (.int y1), .val (.int z1), .val (.int (3 : Int32)), .val (.ref r_548), .val (.ref r_555), .unset, .unset, .unset, .unset, .unset] [(.int (4 : Int32))]))
    refine own_st (fun u_ k_ => XS.iconst X553.here hx rfl (hb hby at_29) k_) ?_
    show own_Go p e below _ (T553.setTop (mkF m 30 #[.val (.int n), .val (.int x1), .val (.int y1), .val (.int z1), .val (.int (3 : Int32)), .val (.ref r_548), .val (.ref r_555), .unset, .unset, .unset, .unset, .unset] [(.int (3 : Int32)), (.int (4 : Int32))]))
    refine own_st (fun u_ k_ => XS.iand X553.here hx rfl (hb hby at_30) rfl k_) ?_
    show own_Go p e below _ (T553.setTop (mkF m 31 #[.val (.int n), .val (.int x1), .val (.int y1), .val (.int z1), .val (.int (3 : Int32)), .val (.ref r_548), .val (.ref r_555), .unset, .unset, .unset, .unset, .unset] [(.int (0 : Int32))]))
    refine own_st (fun u_ k_ => XS.iloadN X553.here hx rfl (hb hby at_31) rfl k_) ?_
    show own_Go p e below _ (T553.setTop (mkF m 32 #[.val (.int n), .val (.int x1), .val (.int y1), .val (.int z1), .val (.int (3 : Int32)), .val (.ref r_548), .val (.ref r_555), .unset, .unset, .unset, .unset, .unset] [(.int x1), (.int (0 : Int32))]))
    refine own_st (fun u_ k_ => XS.iloadN X553.here hx rfl (hb hby at_32) rfl k_) ?_
    show own_Go p e below _ (T553.setTop (mkF m 33 #[.val (.int n), .val (.int x1), .val (.int y1), .val (.int z1), .val (.int (3 : Int32)), .val (.ref r_548), .val (.ref r_555), .unset, .unset, .unset, .unset, .unset] [(.int y1), (.int x1), (.int (0 : Int32))]))
    refine own_st (fun u_ k_ => XS.iloadN X553.here hx rfl (hb hby at_33) rfl k_) ?_
    show own_Go p e below _ (T553.setTop (mkF m 34 #[.val (.int n), .val (.int x1), .val (.int y1), .val (.int z1), .val (.int (3 : Int32)), .val (.ref r_548), .val (.ref r_555), .unset, .unset, .unset, .unset, .unset] [(.int z1), (.int y1), (.int x1), (.int (0 : Int32))]))
    have O561 : Old Z n0 T553.heap := O554.keep K553 all0
    obtain ⟨T560, v560, L560, X560, hQ560, st560⟩ := own_callS X553 hx hZ (y := (⟨"com/example/tasdik/tasdik/core/cbor/CborValueByteStringPinLaw", "make", "(IIII)[B"⟩ : MethodName)) hown (hw _ (List.mem_of_getElem? (i := 0) rfl)) (hw _ (List.mem_of_getElem? (i := 1) rfl)) (hw _ (List.mem_of_getElem? (i := 2) rfl)) (hw _ (List.mem_of_getElem? (i := 3) rfl)) own_lm_271 (rmK0 l Z a0 hw [] w0 wl wp mr hS x1 y1 z1 T553.heap n0 O561 ) rfl own_pd_272 (argsL := [(.int (0 : Int32)), (.int x1), (.int y1), (.int z1)]) (rest := []) rfl rfl (g := (mkF m 34 #[.val (.int n), .val (.int x1), .val (.int y1), .val (.int z1), .val (.int (3 : Int32)), .val (.ref r_548), .val (.ref r_555), .unset, .unset, .unset, .unset, .unset] [(.int z1), (.int y1), (.int x1), (.int (0 : Int32))])) rfl (by rw [hml]; rfl) rfl (hb hby at_34) (W := 0) rfl (by decide) (by decide) (by decide) (by decide)
    obtain ⟨r_562, kr_563, rfl, M560, K560, z564, F565, F566⟩ := hQ560
    have N560 := Fr.app N553 M560
    refine own_st (fun u_ k_ => st560 u_ k_) ?_
    show own_Go p e below _ (T560.setTop (mkF m 37 #[.val (.int n), .val (.int x1), .val (.int y1), .val (.int z1), .val (.int (3 : Int32)), .val (.ref r_548), .val (.ref r_555), .unset, .unset, .unset, .unset, .unset] [(.ref r_562)]))
    refine own_st (fun u_ k_ => XS.astore X560.here hx rfl (hb hby at_37) rfl rfl (l' := #[.val (.int n), .val (.int x1), .val (.int y1), .val (.int z1), .val (.int (3 : Int32)), .val (.ref r_548), .val (.ref r_555), .val (.ref r_562), .unset, .unset, .unset, .unset]) rfl k_) ?_
    show own_Go p e below _ (T560.setTop (mkF m 39 #[.val (.int n), .val (.int x1), .val (.int y1), .val (.int z1), .val (.int (3 : Int32)), .val (.ref r_548), .val (.ref r_555), .val (.ref r_562), .unset, .unset, .unset, .unset] []))
    refine own_st (fun u_ k_ => XS.aload X560.here hx rfl (hb hby at_39) rfl rfl k_) ?_
    show own_Go p e below _ (T560.setTop (mkF m 41 #[.val (.int n), .val (.int x1), .val (.int y1), .val (.int z1), .val (.int (3 : Int32)), .val (.ref r_548), .val (.ref r_555), .val (.ref r_562), .unset, .unset, .unset, .unset] [(.ref r_548)]))
    have O568 : Old Z n0 T560.heap := O561.keep K560 all0
    obtain ⟨T567, v567, L567, X567, hQ567, st567⟩ := own_callS X560 hx hZ (y := (⟨"com/example/tasdik/tasdik/core/cbor/CborValue", "byteString", "([B)Lcom/example/tasdik/tasdik/core/cbor/CborValue;"⟩ : MethodName)) hown (hw _ (List.mem_of_getElem? (i := 5) rfl)) (hw _ (List.mem_of_getElem? (i := 6) rfl)) (hw _ (List.mem_of_getElem? (i := 7) rfl)) (hw _ (List.mem_of_getElem? (i := 8) rfl)) own_lm_134 (rmB l Z a0 hw [] w0 wl wp mr hS r_548 T560.heap n0 O568 ) rfl own_pd_273 (argsL := [(.ref r_548)]) (rest := []) rfl rfl (g := (mkF m 41 #[.val (.int n), .val (.int x1), .val (.int y1), .val (.int z1), .val (.int (3 : Int32)), .val (.ref r_548), .val (.ref r_555), .val (.ref r_562), .unset, .unset, .unset, .unset] [(.ref r_548)])) rfl (by rw [hml]; rfl) rfl (hb hby at_41) (W := 0) rfl (by decide) (by decide) (by decide) (by decide)
    obtain ⟨r_569, rfl, M567, K567, z570, F571, F572, F573⟩ := hQ567
    have N567 := Fr.app N560 M567
    refine own_st (fun u_ k_ => st567 u_ k_) ?_
    show own_Go p e below _ (T567.setTop (mkF m 44 #[.val (.int n), .val (.int x1), .val (.int y1), .val (.int z1), .val (.int (3 : Int32)), .val (.ref r_548), .val (.ref r_555), .val (.ref r_562), .unset, .unset, .unset, .unset] [(.ref r_569)]))
    refine own_st (fun u_ k_ => XS.astore X567.here hx rfl (hb hby at_44) rfl rfl (l' := #[.val (.int n), .val (.int x1), .val (.int y1), .val (.int z1), .val (.int (3 : Int32)), .val (.ref r_548), .val (.ref r_555), .val (.ref r_562), .val (.ref r_569), .unset, .unset, .unset]) rfl k_) ?_
    show own_Go p e below _ (T567.setTop (mkF m 46 #[.val (.int n), .val (.int x1), .val (.int y1), .val (.int z1), .val (.int (3 : Int32)), .val (.ref r_548), .val (.ref r_555), .val (.ref r_562), .val (.ref r_569), .unset, .unset, .unset] []))
    refine own_st (fun u_ k_ => XS.aload X567.here hx rfl (hb hby at_46) rfl rfl k_) ?_
    show own_Go p e below _ (T567.setTop (mkF m 48 #[.val (.int n), .val (.int x1), .val (.int y1), .val (.int z1), .val (.int (3 : Int32)), .val (.ref r_548), .val (.ref r_555), .val (.ref r_562), .val (.ref r_569), .unset, .unset, .unset] [(.ref r_555)]))
    have O575 : Old Z n0 T567.heap := O568.keep K567 all0
    obtain ⟨T574, v574, L574, X574, hQ574, st574⟩ := own_callS X567 hx hZ (y := (⟨"com/example/tasdik/tasdik/core/cbor/CborValue", "byteString", "([B)Lcom/example/tasdik/tasdik/core/cbor/CborValue;"⟩ : MethodName)) hown (hw _ (List.mem_of_getElem? (i := 5) rfl)) (hw _ (List.mem_of_getElem? (i := 6) rfl)) (hw _ (List.mem_of_getElem? (i := 7) rfl)) (hw _ (List.mem_of_getElem? (i := 8) rfl)) own_lm_134 (rmB l Z a0 hw [] w0 wl wp mr hS r_555 T567.heap n0 O575 ) rfl own_pd_273 (argsL := [(.ref r_555)]) (rest := []) rfl rfl (g := (mkF m 48 #[.val (.int n), .val (.int x1), .val (.int y1), .val (.int z1), .val (.int (3 : Int32)), .val (.ref r_548), .val (.ref r_555), .val (.ref r_562), .val (.ref r_569), .unset, .unset, .unset] [(.ref r_555)])) rfl (by rw [hml]; rfl) rfl (hb hby at_48) (W := 0) rfl (by decide) (by decide) (by decide) (by decide)
    obtain ⟨r_576, rfl, M574, K574, z577, F578, F579, F580⟩ := hQ574
    have N574 := Fr.app N567 M574
    refine own_st (fun u_ k_ => st574 u_ k_) ?_
    show own_Go p e below _ (T574.setTop (mkF m 51 #[.val (.int n), .val (.int x1), .val (.int y1), .val (.int z1), .val (.int (3 : Int32)), .val (.ref r_548), .val (.ref r_555), .val (.ref r_562), .val (.ref r_569), .unset, .unset, .unset] [(.ref r_576)]))
    refine own_st (fun u_ k_ => XS.astore X574.here hx rfl (hb hby at_51) rfl rfl (l' := #[.val (.int n), .val (.int x1), .val (.int y1), .val (.int z1), .val (.int (3 : Int32)), .val (.ref r_548), .val (.ref r_555), .val (.ref r_562), .val (.ref r_569), .val (.ref r_576), .unset, .unset]) rfl k_) ?_
    show own_Go p e below _ (T574.setTop (mkF m 53 #[.val (.int n), .val (.int x1), .val (.int y1), .val (.int z1), .val (.int (3 : Int32)), .val (.ref r_548), .val (.ref r_555), .val (.ref r_562), .val (.ref r_569), .val (.ref r_576), .unset, .unset] []))
    refine own_st (fun u_ k_ => XS.aload X574.here hx rfl (hb hby at_53) rfl rfl k_) ?_
    show own_Go p e below _ (T574.setTop (mkF m 55 #[.val (.int n), .val (.int x1), .val (.int y1), .val (.int z1), .val (.int (3 : Int32)), .val (.ref r_548), .val (.ref r_555), .val (.ref r_562), .val (.ref r_569), .val (.ref r_576), .unset, .unset] [(.ref r_562)]))
    have O582 : Old Z n0 T574.heap := O575.keep K574 all0
    obtain ⟨T581, v581, L581, X581, hQ581, st581⟩ := own_callS X574 hx hZ (y := (⟨"com/example/tasdik/tasdik/core/cbor/CborValue", "byteString", "([B)Lcom/example/tasdik/tasdik/core/cbor/CborValue;"⟩ : MethodName)) hown (hw _ (List.mem_of_getElem? (i := 5) rfl)) (hw _ (List.mem_of_getElem? (i := 6) rfl)) (hw _ (List.mem_of_getElem? (i := 7) rfl)) (hw _ (List.mem_of_getElem? (i := 8) rfl)) own_lm_134 (rmB l Z a0 hw [] w0 wl wp mr hS r_562 T574.heap n0 O582 ) rfl own_pd_273 (argsL := [(.ref r_562)]) (rest := []) rfl rfl (g := (mkF m 55 #[.val (.int n), .val (.int x1), .val (.int y1), .val (.int z1), .val (.int (3 : Int32)), .val (.ref r_548), .val (.ref r_555), .val (.ref r_562), .val (.ref r_569), .val (.ref r_576), .unset, .unset] [(.ref r_562)])) rfl (by rw [hml]; rfl) rfl (hb hby at_55) (W := 0) rfl (by decide) (by decide) (by decide) (by decide)
    obtain ⟨r_583, rfl, M581, K581, z584, F585, F586, F587⟩ := hQ581
    have N581 := Fr.app N574 M581
    refine own_st (fun u_ k_ => st581 u_ k_) ?_
    show own_Go p e below _ (T581.setTop (mkF m 58 #[.val (.int n), .val (.int x1), .val (.int y1), .val (.int z1), .val (.int (3 : Int32)), .val (.ref r_548), .val (.ref r_555), .val (.ref r_562), .val (.ref r_569), .val (.ref r_576), .unset, .unset] [(.ref r_583)]))
    refine own_st (fun u_ k_ => XS.astore X581.here hx rfl (hb hby at_58) rfl rfl (l' := #[.val (.int n), .val (.int x1), .val (.int y1), .val (.int z1), .val (.int (3 : Int32)), .val (.ref r_548), .val (.ref r_555), .val (.ref r_562), .val (.ref r_569), .val (.ref r_576), .val (.ref r_583), .unset]) rfl k_) ?_
    show own_Go p e below _ (T581.setTop (mkF m 60 #[.val (.int n), .val (.int x1), .val (.int y1), .val (.int z1), .val (.int (3 : Int32)), .val (.ref r_548), .val (.ref r_555), .val (.ref r_562), .val (.ref r_569), .val (.ref r_576), .val (.ref r_583), .unset] []))
    refine own_st (fun u_ k_ => XS.aload X581.here hx rfl (hb hby at_60) rfl rfl k_) ?_
    show own_Go p e below _ (T581.setTop (mkF m 62 #[.val (.int n), .val (.int x1), .val (.int y1), .val (.int z1), .val (.int (3 : Int32)), .val (.ref r_548), .val (.ref r_555), .val (.ref r_562), .val (.ref r_569), .val (.ref r_576), .val (.ref r_583), .unset] [(.ref r_569)]))
    have F588 : Fld Z T581.heap r_569 "com/example/tasdik/tasdik/core/cbor/CborValue" "type" "Lcom/example/tasdik/tasdik/core/cbor/CborValue$Type;" (.ref w0) := ((F572.keep K574 nin0).keep K581 nin0)
    have O590 : Old Z n0 T581.heap := O582.keep K581 all0
    have F591 : Exa Z T581.heap r_569 "com/example/tasdik/tasdik/core/cbor/CborValue" := ((F571.keep K574).keep K581)
    obtain ⟨T589, v589, L589, X589, hQ589, st589⟩ := own_callV X581 hx hZ (y := (⟨"com/example/tasdik/tasdik/core/cbor/CborValue", "type", "()Lcom/example/tasdik/tasdik/core/cbor/CborValue$Type;"⟩ : MethodName)) (z := (⟨"com/example/tasdik/tasdik/core/cbor/CborValue", "type", "()Lcom/example/tasdik/tasdik/core/cbor/CborValue$Type;"⟩ : MethodName)) hown (hw _ (List.mem_of_getElem? (i := 45) rfl)) (hw _ (List.mem_of_getElem? (i := 46) rfl)) (notFace_of_selects (args := #[]) (mvT hZ (hw _ (List.mem_of_getElem? (i := 48) rfl)))) (hw _ (List.mem_of_getElem? (i := 48) rfl)) (hw _ (List.mem_of_getElem? (i := 47) rfl)) (hw _ (List.mem_of_getElem? (i := 7) rfl)) (hw _ (List.mem_of_getElem? (i := 49) rfl)) own_lm_134 (rmT l Z a0 hw [] w0 wl wp mr hS r_569 w0 T581.heap n0 O590 F588) rfl F591 own_pd_274 (argsL := []) (rest := []) rfl rfl (g := (mkF m 62 #[.val (.int n), .val (.int x1), .val (.int y1), .val (.int z1), .val (.int (3 : Int32)), .val (.ref r_548), .val (.ref r_555), .val (.ref r_562), .val (.ref r_569), .val (.ref r_576), .val (.ref r_583), .unset] [(.ref r_569)])) rfl (by rw [hml]; rfl) rfl (hb hby at_62) (W := 0) rfl (by decide) (by decide) (by decide) (by decide)
    obtain ⟨rfl, M589, e589⟩ := hQ589
    have N589 := Fr.app N581 M589
    refine own_st (fun u_ k_ => st589 u_ k_) ?_
    show own_Go p e below _ (T589.setTop (mkF m 65 #[.val (.int n), .val (.int x1), .val (.int y1), .val (.int z1), .val (.int (3 : Int32)), .val (.ref r_548), .val (.ref r_555), .val (.ref r_562), .val (.ref r_569), .val (.ref r_576), .val (.ref r_583), .unset] [(.ref w0)]))
    have F592 : Sta Z T581.heap "com/example/tasdik/tasdik/core/cbor/CborValue$Type" "BYTE_STRING" "Lcom/example/tasdik/tasdik/core/cbor/CborValue$Type;" (.ref w0) := Sta.ext O590.2 hS.1
    obtain ⟨T593, X593, e593, st593⟩ := getS2 X589 hx hZ hown (host := "") (Or.inl (hw _ (List.mem_of_getElem? (i := 50) rfl))) Via.refl e589 F592 (g := (mkF m 65 #[.val (.int n), .val (.int x1), .val (.int y1), .val (.int z1), .val (.int (3 : Int32)), .val (.ref r_548), .val (.ref r_555), .val (.ref r_562), .val (.ref r_569), .val (.ref r_576), .val (.ref r_583), .unset] [(.ref w0)])) rfl (hb hby at_65)
    refine own_st (fun u_ k_ => st593 u_ k_) ?_
    show own_Go p e below _ (T593.setTop (mkF m 68 #[.val (.int n), .val (.int x1), .val (.int y1), .val (.int z1), .val (.int (3 : Int32)), .val (.ref r_548), .val (.ref r_555), .val (.ref r_562), .val (.ref r_569), .val (.ref r_576), .val (.ref r_583), .unset] [(.ref w0), (.ref w0)]))
    refine own_st (fun u_ k_ => XT.acmpYes X593.here hx rfl (pc0 := 68) (pc' := 73) rfl (hb hby at_68) rfl rfl rfl (XT.aa_eq_t rfl) (by decide) (by decide) k_) ?_
    show own_Go p e below _ (T593.setTop (mkF m 73 #[.val (.int n), .val (.int x1), .val (.int y1), .val (.int z1), .val (.int (3 : Int32)), .val (.ref r_548), .val (.ref r_555), .val (.ref r_562), .val (.ref r_569), .val (.ref r_576), .val (.ref r_583), .unset] []))
    refine own_st (fun u_ k_ => XS.aload X593.here hx rfl (hb hby at_73) rfl rfl k_) ?_
    show own_Go p e below _ (T593.setTop (mkF m 75 #[.val (.int n), .val (.int x1), .val (.int y1), .val (.int z1), .val (.int (3 : Int32)), .val (.ref r_548), .val (.ref r_555), .val (.ref r_562), .val (.ref r_569), .val (.ref r_576), .val (.ref r_583), .unset] [(.ref r_569)]))
    have F594 : Fld Z T581.heap r_569 "com/example/tasdik/tasdik/core/cbor/CborValue" "bytes" "[B" (.ref r_548) := ((F573.keep K574 nin0).keep K581 nin0)
    have F595 : Arv Z T581.heap r_548 kr_549 .byte (3 : Int32) [(.int (x1.toInt8.toInt32)), (.int (y1.toInt8.toInt32)), (.int (z1.toInt8.toInt32))] (.int (0 : Int32)) := (((((F551.keep K553 nin0).keep K560 nin0).keep K567 nin0).keep K574 nin0).keep K581 nin0)
    have F596 : Exa Z T581.heap r_548 "[B" := (((((F552.keep K553).keep K560).keep K567).keep K574).keep K581)
    obtain ⟨T597, v597, L597, X597, hQ597, st597⟩ := own_callV X593 hx hZ (y := (⟨"com/example/tasdik/tasdik/core/cbor/CborValue", "bytes", "()[B"⟩ : MethodName)) (z := (⟨"com/example/tasdik/tasdik/core/cbor/CborValue", "bytes", "()[B"⟩ : MethodName)) hown (hw _ (List.mem_of_getElem? (i := 51) rfl)) (hw _ (List.mem_of_getElem? (i := 52) rfl)) (notFace_of_selects (args := #[]) (mvT hZ (hw _ (List.mem_of_getElem? (i := 54) rfl)))) (hw _ (List.mem_of_getElem? (i := 54) rfl)) (hw _ (List.mem_of_getElem? (i := 53) rfl)) (hw _ (List.mem_of_getElem? (i := 7) rfl)) (hw _ (List.mem_of_getElem? (i := 55) rfl)) own_lm_134 (rmY3 l Z a0 hw [] w0 wl wp mr hS r_569 r_548 kr_549 (x1.toInt8.toInt32) (y1.toInt8.toInt32) (z1.toInt8.toInt32) T581.heap n0 O590 F591 F588 F594 F595 F596) e593 F591 own_pd_275 (argsL := []) (rest := []) rfl rfl (g := (mkF m 75 #[.val (.int n), .val (.int x1), .val (.int y1), .val (.int z1), .val (.int (3 : Int32)), .val (.ref r_548), .val (.ref r_555), .val (.ref r_562), .val (.ref r_569), .val (.ref r_576), .val (.ref r_583), .unset] [(.ref r_569)])) rfl (by rw [hml]; rfl) rfl (hb hby at_75) (W := 0) rfl (by decide) (by decide) (by decide) (by decide)
    obtain ⟨r_598, kr_599, rfl, M597, K597, z600, F601, F602⟩ := hQ597
    have N597 := Fr.app N589 M597
    refine own_st (fun u_ k_ => st597 u_ k_) ?_
    show own_Go p e below _ (T597.setTop (mkF m 78 #[.val (.int n), .val (.int x1), .val (.int y1), .val (.int z1), .val (.int (3 : Int32)), .val (.ref r_548), .val (.ref r_555), .val (.ref r_562), .val (.ref r_569), .val (.ref r_576), .val (.ref r_583), .unset] [(.ref r_598)]))
    refine own_st (fun u_ k_ => XS.astore X597.here hx rfl (hb hby at_78) rfl rfl (l' := #[.val (.int n), .val (.int x1), .val (.int y1), .val (.int z1), .val (.int (3 : Int32)), .val (.ref r_548), .val (.ref r_555), .val (.ref r_562), .val (.ref r_569), .val (.ref r_576), .val (.ref r_583), .val (.ref r_598)]) rfl k_) ?_
    show own_Go p e below _ (T597.setTop (mkF m 80 #[.val (.int n), .val (.int x1), .val (.int y1), .val (.int z1), .val (.int (3 : Int32)), .val (.ref r_548), .val (.ref r_555), .val (.ref r_562), .val (.ref r_569), .val (.ref r_576), .val (.ref r_583), .val (.ref r_598)] []))
    refine own_st (fun u_ k_ => XS.aload X597.here hx rfl (hb hby at_80) rfl rfl k_) ?_
    show own_Go p e below _ (T597.setTop (mkF m 82 #[.val (.int n), .val (.int x1), .val (.int y1), .val (.int z1), .val (.int (3 : Int32)), .val (.ref r_548), .val (.ref r_555), .val (.ref r_562), .val (.ref r_569), .val (.ref r_576), .val (.ref r_583), .val (.ref r_598)] [(.ref r_598)]))
    obtain ⟨cl603, Ar603, -, S603, N603, -, -⟩ := id F601
    refine own_st (X597.arraylength hx Ar603.1 (State.isArrayOf_alike hZ.alike Ar603.2.1) (g := (mkF m 82 #[.val (.int n), .val (.int x1), .val (.int y1), .val (.int z1), .val (.int (3 : Int32)), .val (.ref r_548), .val (.ref r_555), .val (.ref r_562), .val (.ref r_569), .val (.ref r_576), .val (.ref r_583), .val (.ref r_598)] [(.ref r_598)])) rfl rfl (hb hby at_82)) ?_
    rw [len_of S603 N603]
    show own_Go p e below _ (T597.setTop (mkF m 83 #[.val (.int n), .val (.int x1), .val (.int y1), .val (.int z1), .val (.int (3 : Int32)), .val (.ref r_548), .val (.ref r_555), .val (.ref r_562), .val (.ref r_569), .val (.ref r_576), .val (.ref r_583), .val (.ref r_598)] [(.int (3 : Int32))]))
    refine own_st (fun u_ k_ => XS.iload X597.here hx rfl (hb hby at_83) rfl k_) ?_
    show own_Go p e below _ (T597.setTop (mkF m 85 #[.val (.int n), .val (.int x1), .val (.int y1), .val (.int z1), .val (.int (3 : Int32)), .val (.ref r_548), .val (.ref r_555), .val (.ref r_562), .val (.ref r_569), .val (.ref r_576), .val (.ref r_583), .val (.ref r_598)] [(.int (3 : Int32)), (.int (3 : Int32))]))
    refine own_st (fun u_ k_ => XS.icmpYes X597.here hx rfl (pc0 := 85) (pc' := 90) rfl (hb hby at_85) rfl (XT.ii_eq_t (by decide)) (by decide) (by decide) k_) ?_
    show own_Go p e below _ (T597.setTop (mkF m 90 #[.val (.int n), .val (.int x1), .val (.int y1), .val (.int z1), .val (.int (3 : Int32)), .val (.ref r_548), .val (.ref r_555), .val (.ref r_562), .val (.ref r_569), .val (.ref r_576), .val (.ref r_583), .val (.ref r_598)] []))
    refine own_st (fun u_ k_ => XS.iload X597.here hx rfl (hb hby at_90) rfl k_) ?_
    show own_Go p e below _ (T597.setTop (mkF m 92 #[.val (.int n), .val (.int x1), .val (.int y1), .val (.int z1), .val (.int (3 : Int32)), .val (.ref r_548), .val (.ref r_555), .val (.ref r_562), .val (.ref r_569), .val (.ref r_576), .val (.ref r_583), .val (.ref r_598)] [(.int (3 : Int32))]))
    refine own_st (fun u_ k_ => XS.ifNo X597.here hx rfl (hb hby at_92) rfl (XT.i0_le_f (by decide)) k_) ?_
    show own_Go p e below _ (T597.setTop (mkF m 95 #[.val (.int n), .val (.int x1), .val (.int y1), .val (.int z1), .val (.int (3 : Int32)), .val (.ref r_548), .val (.ref r_555), .val (.ref r_562), .val (.ref r_569), .val (.ref r_576), .val (.ref r_583), .val (.ref r_598)] []))
    refine own_st (fun u_ k_ => XS.aload X597.here hx rfl (hb hby at_95) rfl rfl k_) ?_
    show own_Go p e below _ (T597.setTop (mkF m 97 #[.val (.int n), .val (.int x1), .val (.int y1), .val (.int z1), .val (.int (3 : Int32)), .val (.ref r_548), .val (.ref r_555), .val (.ref r_562), .val (.ref r_569), .val (.ref r_576), .val (.ref r_583), .val (.ref r_598)] [(.ref r_598)]))
    refine own_st (fun u_ k_ => XS.iconst X597.here hx rfl (hb hby at_97) k_) ?_
    show own_Go p e below _ (T597.setTop (mkF m 98 #[.val (.int n), .val (.int x1), .val (.int y1), .val (.int z1), .val (.int (3 : Int32)), .val (.ref r_548), .val (.ref r_555), .val (.ref r_562), .val (.ref r_569), .val (.ref r_576), .val (.ref r_583), .val (.ref r_598)] [(.int (0 : Int32)), (.ref r_598)]))
    obtain ⟨cl604, Ar604, q604, S604, N604, H604, G604⟩ := id F601
    have hi604 : ¬ ((0 : Int32) < 0 ∨ cl604.slots.size ≤ ((0 : Int32)).toNatClampNeg) := inb_of S604 ⟨by decide, by decide⟩
    have ha604 : cl604.slots[((0 : Int32)).toNatClampNeg]? = some (.int (x1.toInt8.toInt32)) := H604.at hi604 rfl
    refine own_st (X597.baloadBytes hx (j := (0 : Int32)) (v := (.int (x1.toInt8.toInt32))) Ar604.1 (State.isArrayOf_alike hZ.alike Ar604.2.1) Ar604.2.2 hi604 ha604 (g := (mkF m 98 #[.val (.int n), .val (.int x1), .val (.int y1), .val (.int z1), .val (.int (3 : Int32)), .val (.ref r_548), .val (.ref r_555), .val (.ref r_562), .val (.ref r_569), .val (.ref r_576), .val (.ref r_583), .val (.ref r_598)] [(.int (0 : Int32)), (.ref r_598)])) rfl rfl (hb hby at_98)) ?_
    show own_Go p e below _ (T597.setTop (mkF m 99 #[.val (.int n), .val (.int x1), .val (.int y1), .val (.int z1), .val (.int (3 : Int32)), .val (.ref r_548), .val (.ref r_555), .val (.ref r_562), .val (.ref r_569), .val (.ref r_576), .val (.ref r_583), .val (.ref r_598)] [(.int (x1.toInt8.toInt32))]))
    refine own_st (fun u_ k_ => XS.iloadN X597.here hx rfl (hb hby at_99) rfl k_) ?_
    show own_Go p e below _ (T597.setTop (mkF m 100 #[.val (.int n), .val (.int x1), .val (.int y1), .val (.int z1), .val (.int (3 : Int32)), .val (.ref r_548), .val (.ref r_555), .val (.ref r_562), .val (.ref r_569), .val (.ref r_576), .val (.ref r_583), .val (.ref r_598)] [(.int x1), (.int (x1.toInt8.toInt32))]))
    refine own_st (fun u_ k_ => XS.i2b X597.here hx rfl (hb hby at_100) rfl k_) ?_
    show own_Go p e below _ (T597.setTop (mkF m 101 #[.val (.int n), .val (.int x1), .val (.int y1), .val (.int z1), .val (.int (3 : Int32)), .val (.ref r_548), .val (.ref r_555), .val (.ref r_562), .val (.ref r_569), .val (.ref r_576), .val (.ref r_583), .val (.ref r_598)] [(.int (x1.toInt8.toInt32)), (.int (x1.toInt8.toInt32))]))
    refine own_st (fun u_ k_ => XS.icmpYes X597.here hx rfl (pc0 := 101) (pc' := 106) rfl (hb hby at_101) rfl (XT.ii_eq_t rfl) (by decide) (by decide) k_) ?_
    show own_Go p e below _ (T597.setTop (mkF m 106 #[.val (.int n), .val (.int x1), .val (.int y1), .val (.int z1), .val (.int (3 : Int32)), .val (.ref r_548), .val (.ref r_555), .val (.ref r_562), .val (.ref r_569), .val (.ref r_576), .val (.ref r_583), .val (.ref r_598)] []))
    refine own_st (fun u_ k_ => XS.iload X597.here hx rfl (hb hby at_106) rfl k_) ?_
    show own_Go p e below _ (T597.setTop (mkF m 108 #[.val (.int n), .val (.int x1), .val (.int y1), .val (.int z1), .val (.int (3 : Int32)), .val (.ref r_548), .val (.ref r_555), .val (.ref r_562), .val (.ref r_569), .val (.ref r_576), .val (.ref r_583), .val (.ref r_598)] [(.int (3 : Int32))]))
    refine own_st (fun u_ k_ => XS.iconst X597.here hx rfl (hb hby at_108) k_) ?_
    show own_Go p e below _ (T597.setTop (mkF m 109 #[.val (.int n), .val (.int x1), .val (.int y1), .val (.int z1), .val (.int (3 : Int32)), .val (.ref r_548), .val (.ref r_555), .val (.ref r_562), .val (.ref r_569), .val (.ref r_576), .val (.ref r_583), .val (.ref r_598)] [(.int (1 : Int32)), (.int (3 : Int32))]))
    refine own_st (fun u_ k_ => XS.icmpNo X597.here hx rfl (hb hby at_109) rfl (XT.ii_le_f (by decide)) k_) ?_
    show own_Go p e below _ (T597.setTop (mkF m 112 #[.val (.int n), .val (.int x1), .val (.int y1), .val (.int z1), .val (.int (3 : Int32)), .val (.ref r_548), .val (.ref r_555), .val (.ref r_562), .val (.ref r_569), .val (.ref r_576), .val (.ref r_583), .val (.ref r_598)] []))
    refine own_st (fun u_ k_ => XS.aload X597.here hx rfl (hb hby at_112) rfl rfl k_) ?_
    show own_Go p e below _ (T597.setTop (mkF m 114 #[.val (.int n), .val (.int x1), .val (.int y1), .val (.int z1), .val (.int (3 : Int32)), .val (.ref r_548), .val (.ref r_555), .val (.ref r_562), .val (.ref r_569), .val (.ref r_576), .val (.ref r_583), .val (.ref r_598)] [(.ref r_598)]))
    refine own_st (fun u_ k_ => XS.iconst X597.here hx rfl (hb hby at_114) k_) ?_
    show own_Go p e below _ (T597.setTop (mkF m 115 #[.val (.int n), .val (.int x1), .val (.int y1), .val (.int z1), .val (.int (3 : Int32)), .val (.ref r_548), .val (.ref r_555), .val (.ref r_562), .val (.ref r_569), .val (.ref r_576), .val (.ref r_583), .val (.ref r_598)] [(.int (1 : Int32)), (.ref r_598)]))
    obtain ⟨cl605, Ar605, q605, S605, N605, H605, G605⟩ := id F601
    have hi605 : ¬ ((1 : Int32) < 0 ∨ cl605.slots.size ≤ ((1 : Int32)).toNatClampNeg) := inb_of S605 ⟨by decide, by decide⟩
    have ha605 : cl605.slots[((1 : Int32)).toNatClampNeg]? = some (.int (y1.toInt8.toInt32)) := H605.at hi605 rfl
    refine own_st (X597.baloadBytes hx (j := (1 : Int32)) (v := (.int (y1.toInt8.toInt32))) Ar605.1 (State.isArrayOf_alike hZ.alike Ar605.2.1) Ar605.2.2 hi605 ha605 (g := (mkF m 115 #[.val (.int n), .val (.int x1), .val (.int y1), .val (.int z1), .val (.int (3 : Int32)), .val (.ref r_548), .val (.ref r_555), .val (.ref r_562), .val (.ref r_569), .val (.ref r_576), .val (.ref r_583), .val (.ref r_598)] [(.int (1 : Int32)), (.ref r_598)])) rfl rfl (hb hby at_115)) ?_
    show own_Go p e below _ (T597.setTop (mkF m 116 #[.val (.int n), .val (.int x1), .val (.int y1), .val (.int z1), .val (.int (3 : Int32)), .val (.ref r_548), .val (.ref r_555), .val (.ref r_562), .val (.ref r_569), .val (.ref r_576), .val (.ref r_583), .val (.ref r_598)] [(.int (y1.toInt8.toInt32))]))
    refine own_st (fun u_ k_ => XS.iloadN X597.here hx rfl (hb hby at_116) rfl k_) ?_
    show own_Go p e below _ (T597.setTop (mkF m 117 #[.val (.int n), .val (.int x1), .val (.int y1), .val (.int z1), .val (.int (3 : Int32)), .val (.ref r_548), .val (.ref r_555), .val (.ref r_562), .val (.ref r_569), .val (.ref r_576), .val (.ref r_583), .val (.ref r_598)] [(.int y1), (.int (y1.toInt8.toInt32))]))
    refine own_st (fun u_ k_ => XS.i2b X597.here hx rfl (hb hby at_117) rfl k_) ?_
    show own_Go p e below _ (T597.setTop (mkF m 118 #[.val (.int n), .val (.int x1), .val (.int y1), .val (.int z1), .val (.int (3 : Int32)), .val (.ref r_548), .val (.ref r_555), .val (.ref r_562), .val (.ref r_569), .val (.ref r_576), .val (.ref r_583), .val (.ref r_598)] [(.int (y1.toInt8.toInt32)), (.int (y1.toInt8.toInt32))]))
    refine own_st (fun u_ k_ => XS.icmpYes X597.here hx rfl (pc0 := 118) (pc' := 123) rfl (hb hby at_118) rfl (XT.ii_eq_t rfl) (by decide) (by decide) k_) ?_
    show own_Go p e below _ (T597.setTop (mkF m 123 #[.val (.int n), .val (.int x1), .val (.int y1), .val (.int z1), .val (.int (3 : Int32)), .val (.ref r_548), .val (.ref r_555), .val (.ref r_562), .val (.ref r_569), .val (.ref r_576), .val (.ref r_583), .val (.ref r_598)] []))
    refine own_st (fun u_ k_ => XS.iload X597.here hx rfl (hb hby at_123) rfl k_) ?_
    show own_Go p e below _ (T597.setTop (mkF m 125 #[.val (.int n), .val (.int x1), .val (.int y1), .val (.int z1), .val (.int (3 : Int32)), .val (.ref r_548), .val (.ref r_555), .val (.ref r_562), .val (.ref r_569), .val (.ref r_576), .val (.ref r_583), .val (.ref r_598)] [(.int (3 : Int32))]))
    refine own_st (fun u_ k_ => XS.iconst X597.here hx rfl (hb hby at_125) k_) ?_
    show own_Go p e below _ (T597.setTop (mkF m 126 #[.val (.int n), .val (.int x1), .val (.int y1), .val (.int z1), .val (.int (3 : Int32)), .val (.ref r_548), .val (.ref r_555), .val (.ref r_562), .val (.ref r_569), .val (.ref r_576), .val (.ref r_583), .val (.ref r_598)] [(.int (2 : Int32)), (.int (3 : Int32))]))
    refine own_st (fun u_ k_ => XS.icmpNo X597.here hx rfl (hb hby at_126) rfl (XT.ii_le_f (by decide)) k_) ?_
    show own_Go p e below _ (T597.setTop (mkF m 129 #[.val (.int n), .val (.int x1), .val (.int y1), .val (.int z1), .val (.int (3 : Int32)), .val (.ref r_548), .val (.ref r_555), .val (.ref r_562), .val (.ref r_569), .val (.ref r_576), .val (.ref r_583), .val (.ref r_598)] []))
    refine own_st (fun u_ k_ => XS.aload X597.here hx rfl (hb hby at_129) rfl rfl k_) ?_
    show own_Go p e below _ (T597.setTop (mkF m 131 #[.val (.int n), .val (.int x1), .val (.int y1), .val (.int z1), .val (.int (3 : Int32)), .val (.ref r_548), .val (.ref r_555), .val (.ref r_562), .val (.ref r_569), .val (.ref r_576), .val (.ref r_583), .val (.ref r_598)] [(.ref r_598)]))
    refine own_st (fun u_ k_ => XS.iconst X597.here hx rfl (hb hby at_131) k_) ?_
    show own_Go p e below _ (T597.setTop (mkF m 132 #[.val (.int n), .val (.int x1), .val (.int y1), .val (.int z1), .val (.int (3 : Int32)), .val (.ref r_548), .val (.ref r_555), .val (.ref r_562), .val (.ref r_569), .val (.ref r_576), .val (.ref r_583), .val (.ref r_598)] [(.int (2 : Int32)), (.ref r_598)]))
    obtain ⟨cl606, Ar606, q606, S606, N606, H606, G606⟩ := id F601
    have hi606 : ¬ ((2 : Int32) < 0 ∨ cl606.slots.size ≤ ((2 : Int32)).toNatClampNeg) := inb_of S606 ⟨by decide, by decide⟩
    have ha606 : cl606.slots[((2 : Int32)).toNatClampNeg]? = some (.int (z1.toInt8.toInt32)) := H606.at hi606 rfl
    refine own_st (X597.baloadBytes hx (j := (2 : Int32)) (v := (.int (z1.toInt8.toInt32))) Ar606.1 (State.isArrayOf_alike hZ.alike Ar606.2.1) Ar606.2.2 hi606 ha606 (g := (mkF m 132 #[.val (.int n), .val (.int x1), .val (.int y1), .val (.int z1), .val (.int (3 : Int32)), .val (.ref r_548), .val (.ref r_555), .val (.ref r_562), .val (.ref r_569), .val (.ref r_576), .val (.ref r_583), .val (.ref r_598)] [(.int (2 : Int32)), (.ref r_598)])) rfl rfl (hb hby at_132)) ?_
    show own_Go p e below _ (T597.setTop (mkF m 133 #[.val (.int n), .val (.int x1), .val (.int y1), .val (.int z1), .val (.int (3 : Int32)), .val (.ref r_548), .val (.ref r_555), .val (.ref r_562), .val (.ref r_569), .val (.ref r_576), .val (.ref r_583), .val (.ref r_598)] [(.int (z1.toInt8.toInt32))]))
    refine own_st (fun u_ k_ => XS.iloadN X597.here hx rfl (hb hby at_133) rfl k_) ?_
    show own_Go p e below _ (T597.setTop (mkF m 134 #[.val (.int n), .val (.int x1), .val (.int y1), .val (.int z1), .val (.int (3 : Int32)), .val (.ref r_548), .val (.ref r_555), .val (.ref r_562), .val (.ref r_569), .val (.ref r_576), .val (.ref r_583), .val (.ref r_598)] [(.int z1), (.int (z1.toInt8.toInt32))]))
    refine own_st (fun u_ k_ => XS.i2b X597.here hx rfl (hb hby at_134) rfl k_) ?_
    show own_Go p e below _ (T597.setTop (mkF m 135 #[.val (.int n), .val (.int x1), .val (.int y1), .val (.int z1), .val (.int (3 : Int32)), .val (.ref r_548), .val (.ref r_555), .val (.ref r_562), .val (.ref r_569), .val (.ref r_576), .val (.ref r_583), .val (.ref r_598)] [(.int (z1.toInt8.toInt32)), (.int (z1.toInt8.toInt32))]))
    refine own_st (fun u_ k_ => XS.icmpYes X597.here hx rfl (pc0 := 135) (pc' := 140) rfl (hb hby at_135) rfl (XT.ii_eq_t rfl) (by decide) (by decide) k_) ?_
    show own_Go p e below _ (T597.setTop (mkF m 140 #[.val (.int n), .val (.int x1), .val (.int y1), .val (.int z1), .val (.int (3 : Int32)), .val (.ref r_548), .val (.ref r_555), .val (.ref r_562), .val (.ref r_569), .val (.ref r_576), .val (.ref r_583), .val (.ref r_598)] []))
    refine own_st (fun u_ k_ => XS.aload X597.here hx rfl (hb hby at_140) rfl rfl k_) ?_
    show own_Go p e below _ (T597.setTop (mkF m 142 #[.val (.int n), .val (.int x1), .val (.int y1), .val (.int z1), .val (.int (3 : Int32)), .val (.ref r_548), .val (.ref r_555), .val (.ref r_562), .val (.ref r_569), .val (.ref r_576), .val (.ref r_583), .val (.ref r_598)] [(.ref r_569)]))
    refine own_st (fun u_ k_ => XS.aload X597.here hx rfl (hb hby at_142) rfl rfl k_) ?_
    show own_Go p e below _ (T597.setTop (mkF m 144 #[.val (.int n), .val (.int x1), .val (.int y1), .val (.int z1), .val (.int (3 : Int32)), .val (.ref r_548), .val (.ref r_555), .val (.ref r_562), .val (.ref r_569), .val (.ref r_576), .val (.ref r_583), .val (.ref r_598)] [(.ref r_576), (.ref r_569)]))
    have F607 : Exa Z T597.heap r_569 "com/example/tasdik/tasdik/core/cbor/CborValue" := (F591.keep K597)
    have F608 : Exa Z T597.heap r_576 "com/example/tasdik/tasdik/core/cbor/CborValue" := ((F578.keep K581).keep K597)
    have F609 : Fld Z T597.heap r_569 "com/example/tasdik/tasdik/core/cbor/CborValue" "type" "Lcom/example/tasdik/tasdik/core/cbor/CborValue$Type;" (.ref w0) := (F588.keep K597 nin0)
    have F610 : Fld Z T597.heap r_576 "com/example/tasdik/tasdik/core/cbor/CborValue" "type" "Lcom/example/tasdik/tasdik/core/cbor/CborValue$Type;" (.ref w0) := ((F579.keep K581 nin0).keep K597 nin0)
    have F611 : Fld Z T597.heap r_569 "com/example/tasdik/tasdik/core/cbor/CborValue" "bytes" "[B" (.ref r_548) := (F594.keep K597 nin0)
    have F612 : Fld Z T597.heap r_576 "com/example/tasdik/tasdik/core/cbor/CborValue" "bytes" "[B" (.ref r_555) := ((F580.keep K581 nin0).keep K597 nin0)
    have F613 : Arv Z T597.heap r_548 kr_549 .byte (3 : Int32) [(.int (x1.toInt8.toInt32)), (.int (y1.toInt8.toInt32)), (.int (z1.toInt8.toInt32))] (.int (0 : Int32)) := (F595.keep K597 nin0)
    have F614 : Arv Z T597.heap r_555 kr_556 .byte (3 : Int32) [(.int (x1.toInt8.toInt32)), (.int (y1.toInt8.toInt32)), (.int (z1.toInt8.toInt32))] (.int (0 : Int32)) := (((((F558.keep K560 nin0).keep K567 nin0).keep K574 nin0).keep K581 nin0).keep K597 nin0)
    have ne615 : r_548 ≠ r_555 := (Nat.ne_of_lt (Nat.lt_of_lt_of_le F551.lt z557))
    have O617 : Old Z n0 T597.heap := O590.keep K597 all0
    obtain ⟨T616, v616, L616, X616, hQ616, st616⟩ := own_callV X597 hx hZ (y := (⟨"com/example/tasdik/tasdik/core/cbor/CborValue", "equals", "(Ljava/lang/Object;)Z"⟩ : MethodName)) (z := (⟨"com/example/tasdik/tasdik/core/cbor/CborValue", "equals", "(Ljava/lang/Object;)Z"⟩ : MethodName)) hown (hw _ (List.mem_of_getElem? (i := 69) rfl)) (hw _ (List.mem_of_getElem? (i := 70) rfl)) (notFace_of_selects (args := #[]) (mvT hZ (hw _ (List.mem_of_getElem? (i := 72) rfl)))) (hw _ (List.mem_of_getElem? (i := 72) rfl)) (hw _ (List.mem_of_getElem? (i := 71) rfl)) (hw _ (List.mem_of_getElem? (i := 7) rfl)) (hw _ (List.mem_of_getElem? (i := 73) rfl)) own_lm_134 (rmE3_3 l Z a0 hw [] w0 wl wp mr hS r_569 r_576 r_548 r_555 kr_549 kr_556 (x1.toInt8.toInt32) (y1.toInt8.toInt32) (z1.toInt8.toInt32) T597.heap n0 O617 F607 F608 F609 F610 F611 F612 F613 F614 ne615) rfl F607 own_pd_276 (argsL := [(.ref r_576)]) (rest := []) rfl rfl (g := (mkF m 144 #[.val (.int n), .val (.int x1), .val (.int y1), .val (.int z1), .val (.int (3 : Int32)), .val (.ref r_548), .val (.ref r_555), .val (.ref r_562), .val (.ref r_569), .val (.ref r_576), .val (.ref r_583), .val (.ref r_598)] [(.ref r_576), (.ref r_569)])) rfl (by rw [hml]; rfl) rfl (hb hby at_144) (W := 0) rfl (by decide) (by decide) (by decide) (by decide)
    obtain ⟨rfl, M616, e616⟩ := hQ616
    have N616 := Fr.app N597 M616
    refine own_st (fun u_ k_ => st616 u_ k_) ?_
    show own_Go p e below _ (T616.setTop (mkF m 147 #[.val (.int n), .val (.int x1), .val (.int y1), .val (.int z1), .val (.int (3 : Int32)), .val (.ref r_548), .val (.ref r_555), .val (.ref r_562), .val (.ref r_569), .val (.ref r_576), .val (.ref r_583), .val (.ref r_598)] [(.int (1 : Int32))]))
    refine own_st (fun u_ k_ => XS.ifNo X616.here hx rfl (hb hby at_147) rfl (XT.i0_eq_f (by decide)) k_) ?_
    show own_Go p e below _ (T616.setTop (mkF m 150 #[.val (.int n), .val (.int x1), .val (.int y1), .val (.int z1), .val (.int (3 : Int32)), .val (.ref r_548), .val (.ref r_555), .val (.ref r_562), .val (.ref r_569), .val (.ref r_576), .val (.ref r_583), .val (.ref r_598)] []))
    refine own_st (fun u_ k_ => XS.aload X616.here hx rfl (hb hby at_150) rfl rfl k_) ?_
    show own_Go p e below _ (T616.setTop (mkF m 152 #[.val (.int n), .val (.int x1), .val (.int y1), .val (.int z1), .val (.int (3 : Int32)), .val (.ref r_548), .val (.ref r_555), .val (.ref r_562), .val (.ref r_569), .val (.ref r_576), .val (.ref r_583), .val (.ref r_598)] [(.ref r_569)]))
    refine own_st (fun u_ k_ => XS.aload X616.here hx rfl (hb hby at_152) rfl rfl k_) ?_
    show own_Go p e below _ (T616.setTop (mkF m 154 #[.val (.int n), .val (.int x1), .val (.int y1), .val (.int z1), .val (.int (3 : Int32)), .val (.ref r_548), .val (.ref r_555), .val (.ref r_562), .val (.ref r_569), .val (.ref r_576), .val (.ref r_583), .val (.ref r_598)] [(.ref r_583), (.ref r_569)]))
    have F618 : Exa Z T597.heap r_583 "com/example/tasdik/tasdik/core/cbor/CborValue" := (F585.keep K597)
    have F619 : Fld Z T597.heap r_583 "com/example/tasdik/tasdik/core/cbor/CborValue" "type" "Lcom/example/tasdik/tasdik/core/cbor/CborValue$Type;" (.ref w0) := (F586.keep K597 nin0)
    have F620 : Fld Z T597.heap r_583 "com/example/tasdik/tasdik/core/cbor/CborValue" "bytes" "[B" (.ref r_562) := (F587.keep K597 nin0)
    have F621 : Arv Z T597.heap r_562 kr_563 .byte (0 : Int32) [] (.int (0 : Int32)) := ((((F565.keep K567 nin0).keep K574 nin0).keep K581 nin0).keep K597 nin0)
    have ne622 : r_548 ≠ r_562 := (Nat.ne_of_lt (Nat.lt_of_lt_of_le (Nat.lt_of_lt_of_le F551.lt K553.1) z564))
    obtain ⟨T623, v623, L623, X623, hQ623, st623⟩ := own_callV X616 hx hZ (y := (⟨"com/example/tasdik/tasdik/core/cbor/CborValue", "equals", "(Ljava/lang/Object;)Z"⟩ : MethodName)) (z := (⟨"com/example/tasdik/tasdik/core/cbor/CborValue", "equals", "(Ljava/lang/Object;)Z"⟩ : MethodName)) hown (hw _ (List.mem_of_getElem? (i := 69) rfl)) (hw _ (List.mem_of_getElem? (i := 70) rfl)) (notFace_of_selects (args := #[]) (mvT hZ (hw _ (List.mem_of_getElem? (i := 72) rfl)))) (hw _ (List.mem_of_getElem? (i := 72) rfl)) (hw _ (List.mem_of_getElem? (i := 71) rfl)) (hw _ (List.mem_of_getElem? (i := 7) rfl)) (hw _ (List.mem_of_getElem? (i := 73) rfl)) own_lm_134 (rmE3_0 l Z a0 hw [] w0 wl wp mr hS r_569 r_583 r_548 r_562 kr_549 kr_563 (x1.toInt8.toInt32) (y1.toInt8.toInt32) (z1.toInt8.toInt32) T597.heap n0 O617 F607 F618 F609 F619 F611 F620 F613 F621 ne622) e616 F607 own_pd_276 (argsL := [(.ref r_583)]) (rest := []) rfl rfl (g := (mkF m 154 #[.val (.int n), .val (.int x1), .val (.int y1), .val (.int z1), .val (.int (3 : Int32)), .val (.ref r_548), .val (.ref r_555), .val (.ref r_562), .val (.ref r_569), .val (.ref r_576), .val (.ref r_583), .val (.ref r_598)] [(.ref r_583), (.ref r_569)])) rfl (by rw [hml]; rfl) rfl (hb hby at_154) (W := 0) rfl (by decide) (by decide) (by decide) (by decide)
    obtain ⟨rfl, M623, e623⟩ := hQ623
    have N623 := Fr.app N616 M623
    refine own_st (fun u_ k_ => st623 u_ k_) ?_
    show own_Go p e below _ (T623.setTop (mkF m 157 #[.val (.int n), .val (.int x1), .val (.int y1), .val (.int z1), .val (.int (3 : Int32)), .val (.ref r_548), .val (.ref r_555), .val (.ref r_562), .val (.ref r_569), .val (.ref r_576), .val (.ref r_583), .val (.ref r_598)] [(.int (0 : Int32))]))
    refine own_st (fun u_ k_ => XS.ifNo X623.here hx rfl (hb hby at_157) rfl (XT.i0_ne_f (by decide)) k_) ?_
    show own_Go p e below _ (T623.setTop (mkF m 160 #[.val (.int n), .val (.int x1), .val (.int y1), .val (.int z1), .val (.int (3 : Int32)), .val (.ref r_548), .val (.ref r_555), .val (.ref r_562), .val (.ref r_569), .val (.ref r_576), .val (.ref r_583), .val (.ref r_598)] []))
    refine own_st (fun u_ k_ => XS.iconst X623.here hx rfl (hb hby at_160) k_) ?_
    show own_Go p e below _ (T623.setTop (mkF m 161 #[.val (.int n), .val (.int x1), .val (.int y1), .val (.int z1), .val (.int (3 : Int32)), .val (.ref r_548), .val (.ref r_555), .val (.ref r_562), .val (.ref r_569), .val (.ref r_576), .val (.ref r_583), .val (.ref r_598)] [(.int (1 : Int32))]))
    refine own_st (fun u_ k_ => XS.goto X623.here hx rfl (pc0 := 161) (pc' := 165) rfl (hb hby at_161) (by decide) (by decide) k_) ?_
    show own_Go p e below _ (T623.setTop (mkF m 165 #[.val (.int n), .val (.int x1), .val (.int y1), .val (.int z1), .val (.int (3 : Int32)), .val (.ref r_548), .val (.ref r_555), .val (.ref r_562), .val (.ref r_569), .val (.ref r_576), .val (.ref r_583), .val (.ref r_598)] [(.int (1 : Int32))]))
    have K624 : Keep h0 T547.heap [] := (Keep.refl h0 []).trans K547 all0
    have K625 : Keep h0 T553.heap [] := K624.trans K553 all0
    have K626 : Keep h0 T560.heap [] := K625.trans K560 all0
    have K627 : Keep h0 T567.heap [] := K626.trans K567 all0
    have K628 : Keep h0 T574.heap [] := K627.trans K574 all0
    have K629 : Keep h0 T581.heap [] := K628.trans K581 all0
    have K630 : Keep h0 T597.heap [] := K629.trans K597 all0
    exact own_retX X623 hx hlk hret rfl (Or.inl ⟨rfl, by simp, _, rfl⟩) (hb hby at_165) (by decide) (by decide) (show Qrm0 Z w0 wl wp mr n x1 y1 z1 h0 n0 (some (.int (1 : Int32))) T623.heap _ from (by rw [e623]; exact ⟨rfl, N623, K630⟩))
set_option maxRecDepth 65536 in
set_option maxHeartbeats 40000000 in
theorem comes_1 {Post : Tables → Env → Array Value → State → Outcome → State → Prop} (hpost : ∀ tb e args s v u, (limb_1_1.after args s (.returned v) u = true ∧ limb_1_2.after args s (.returned v) u = true ∧ True) → FrameEnd s (.returned v) u (Jvm.fieldLocs frame_1_writes args s ++ Jvm.arrayLocs frame_1_arrays args s ++ Jvm.staticLocs frame_1_statics s) 24 128 → Post tb e args s (.returned v) u) :
    ArmFor flags0 classFile x code maxLocals ret World_1 tables_1 room_1 Calls_1 rest_1 Pre_1 Post := by
  intro l hfl _ _ p e ha hc hk s m args below hf hA hF happ hP
  obtain ⟨hcalls, hrest, hpre⟩ := hP
  obtain ⟨-, -, -, hnamed, -, -, -, hat⟩ := (Spec.applies_iff hf).mp happ
  obtain ⟨hg, hn⟩ := and_e (Cond.before_iff.mp (show (Jvm.Cond.and given_1 narrow_1).before args s = true from hpre))
  obtain ⟨hcount, hr0⟩ := and_e hg
  obtain ⟨ha0, hr1⟩ := and_e hr0
  obtain ⟨ha1, hr2⟩ := and_e hr1
  obtain ⟨ha2, hr3⟩ := and_e hr2
  have ha3 := hr3
  obtain ⟨w_0, w_1, w_2, w_3, rfl⟩ : ∃ w_0 w_1 w_2 w_3 : Value, args = #[w_0, w_1, w_2, w_3] := by
    have hs : args.size = 4 := by simpa [Cond.value, given_1] using hcount
    obtain ⟨L⟩ := args
    match L, hs with
    | [w_0, w_1, w_2, w_3], _ => exact ⟨w_0, w_1, w_2, w_3, rfl⟩
  have hw := fun d (hd : d ∈ tables_1) => atoms_spec (ws := Jvm.Cond.code x code maxLocals ret :: tables_1) hat d (List.mem_cons_of_mem _ hd)
  have hfit : Fit s := fun {y c} hc i hi => by
    obtain ⟨ha, rfl⟩ := Array.getElem?_eq_some_iff.mp hc
    have q := List.all_eq_true.mp ((Array.all_eq_true_iff_forall_mem.mp hF) _ (Array.getElem_mem ha)) i (List.mem_range.mpr hi)
    simpa [Array.getElem?_eq_getElem hi] using q
  obtain ⟨i_0, ei_0⟩ := is_v ha0
  obtain rfl : w_0 = (.int i_0) := Option.some.inj ei_0
  obtain ⟨i_1, ei_1⟩ := is_v ha1
  obtain rfl : w_1 = (.int i_1) := Option.some.inj ei_1
  obtain ⟨i_2, ei_2⟩ := is_v ha2
  obtain rfl : w_2 = (.int i_2) := Option.some.inj ei_2
  obtain ⟨i_3, ei_3⟩ := is_v ha3
  obtain rfl : w_3 = (.int i_3) := Option.some.inj ei_3
  obtain ⟨hl0, hn0⟩ := and_e hn
  have hl1 := hn0
  obtain ⟨hsets, hown0⟩ := atoms_of _ (rest_1_c_eq ▸ (show rest_1_c.before _ s = true from hrest))
  obtain ⟨w0, e_w0⟩ := exa_v hl0
  obtain ⟨wl, e_wl⟩ := exa_v (Cond.before_iff.mp (hsets _ (List.mem_of_getElem? (i := 2) rfl)))
  obtain ⟨wp, e_wp⟩ := exa_v (Cond.before_iff.mp (hsets _ (List.mem_of_getElem? (i := 9) rfl)))
  obtain ⟨⟨c_m, k_m, mr, q_m1, q_m2, q_m3, _⟩, _⟩ := hcalls
  have hS : own_S s w0 wl wp mr := ⟨(Sta.start e_w0 (Or.inr ⟨(hw _ (List.mem_of_getElem? (i := 12) rfl)), (hw _ (List.mem_of_getElem? (i := 13) rfl))⟩)), (Exa.start e_w0 hl0), (own_fldI e_w0 hl1), (Sta.start e_wl (Or.inl (hsets _ (List.mem_of_getElem? (i := 1) rfl)))), (Sta.start e_wp (Or.inl (hsets _ (List.mem_of_getElem? (i := 8) rfl)))), ⟨c_m, k_m, q_m1, q_m2, q_m3⟩⟩
  obtain ⟨n, o, h1, h2, h3, _, L, rfl, ⟨rfl, N, _⟩, hq⟩ := rm0 l s _ hw tables_1 w0 wl wp mr hS i_0 i_1 i_2 i_3 s.heap s.heap.size (Old.start s) p e ha hc hk s m _ below hf ((Spec.applies_iff_loose hf).mp happ).1 ⟨rfl, State.Warmed39.refl s, rfl⟩ trivial
  refine ⟨n, _, h1, h2, h3, hpost _ _ _ _ _ _ ⟨Cond.after_iff.mpr rfl, Cond.after_iff.mpr (eq_i res_at (Term.int_eval (1)) rfl), trivial⟩ ⟨hq.1, hq.2.1, (hq.2.2.sift fun y hy => Or.inr (N y hy)).mono (by decide) (by decide)⟩⟩
theorem main_1_1 : Claimed_1_1 := comes_1 fun _ _ _ _ _ _ h hF => ⟨h.1, hF⟩
theorem main_1_2 : Claimed_1_2 := comes_1 fun _ _ _ _ _ _ h hF => ⟨h.2.1, hF⟩
end Jvm.Pilot.@@N@@
namespace Jvm.Pilot.@@N@@
open Jvm Jvm.ClassFile Sem Op Lib Jvm.Free Jvm.Stand Jvm.Pilot.@@N@@.Jvm.D
/-! MADE BY PROGRAM (witnessworld.py) out of the Statement's table words and the real class files: 32 classes; the members and pool entries that the words name. The judged class is class 1, her method 2. -/
namespace start1
open Jvm.ClassFile
def u (s : String) : CpInfo := .utf8 (stringToUtf16 s)
/-- a pool by its gaps: so many unusable entries, then the entry; so many at the end -/
def gap : Nat → List CpInfo → List CpInfo
  | 0, r => r
  | n + 1, r => .unusable :: gap n r
def poolList (es : List (Nat × CpInfo)) (last : Nat) : List CpInfo := es.foldr (fun e r => gap e.1 (e.2 :: r)) (gap last [])
def pool (es : List (Nat × CpInfo)) (last : Nat) : Array CpInfo := ⟨poolList es last⟩
def fileOf (pool : Array CpInfo) (this : Nat) (attrs : Array Attribute := #[]) (ms : Array MethodInfo := #[]) (fl : Nat := 33) (sup : Nat := 0) (ifs : Array Nat := #[]) (fds : Array FieldInfo := #[]) : ClassFile where
  minorVersion := 0
  majorVersion := 65
  constantPool := pool
  accessFlags := fl
  thisClass := this
  superClass := sup
  interfaces := ifs
  fields := fds
  methods := ms
  attributes := attrs
def plain (name : String) (sup : Option ClassId) : Class where
  name := name
  kind := .ordinary
  loader := none
  accessFlags := 33
  super := sup
  interfaces := #[]
  cf := none
  fields := #[]
  methods := #[]
  instanceTypes := #[]
  staticTypes := #[]
  resolved := #[]
  callSites := []
  init := .initialized
  statics := none
  mirror := none

def pool0 : Array CpInfo := pool [(5, u "<init>"), (0, u "()V"), (1, .class_ 10), (1, u "java/lang/Object"), (0, u "getClass"), (0, u "()Ljava/lang/Class;"), (83, u "clone"), (0, u "()Ljava/lang/Object;")] 26

def k0c0 : Code := { maxStack := 0, maxLocals := 1, code := object_method_1_code, exceptionTable := #[], attributes := #[] }
def k0m0 : Method := { name := "<init>", desc := "()V", sig := { parameters := [], returnType := none }, accessFlags := 1, code := some k0c0 }
def k0m1 : Method := { name := "getClass", desc := "()Ljava/lang/Class;", sig := { parameters := [], returnType := some (.object "java/lang/Class") }, accessFlags := 273, code := none }
def k0m2 : Method := { name := "clone", desc := "()Ljava/lang/Object;", sig := { parameters := [], returnType := some (.object "java/lang/Object") }, accessFlags := 260, code := none }
/-- java/lang/Object -/
def k0 : Class := { plain "java/lang/Object" none with
  accessFlags := 33
  interfaces := #[]
  cf := some (fileOf pool0 8 #[] #[{ accessFlags := 1, nameIndex := 5, descriptorIndex := 6, attributes := #[] }, { accessFlags := 273, nameIndex := 11, descriptorIndex := 12, attributes := #[] }, { accessFlags := 260, nameIndex := 96, descriptorIndex := 97, attributes := #[] }] 33 0 #[] #[])
  fields := #[]
  methods := #[k0m0, k0m1, k0m2]
  instanceTypes := #[]
  staticTypes := #[]
  resolved := Array.replicate 124 none
  statics := none }

def pool1 : Array CpInfo := pool [(2, .class_ 4), (1, u "java/lang/Object"), (0, u "<init>"), (0, u "()V"), (0, .methodref 8 9), (0, .class_ 10), (0, .nameAndType 11 12), (0, u "com/example/tasdik/tasdik/core/cbor/CborValueByteStringPinLaw"), (0, u "make"), (0, u "(IIII)[B"), (0, .methodref 14 15), (0, .class_ 16), (0, .nameAndType 17 18), (0, u "com/example/tasdik/tasdik/core/cbor/CborValue"), (0, u "byteString"), (0, u "([B)Lcom/example/tasdik/tasdik/core/cbor/CborValue;"), (0, .methodref 14 20), (0, .nameAndType 21 22), (0, u "type"), (0, u "()Lcom/example/tasdik/tasdik/core/cbor/CborValue$Type;"), (0, .fieldref 24 25), (0, .class_ 26), (0, .nameAndType 27 28), (0, u "com/example/tasdik/tasdik/core/cbor/CborValue$Type"), (0, u "BYTE_STRING"), (0, u "Lcom/example/tasdik/tasdik/core/cbor/CborValue$Type;"), (0, .methodref 14 30), (0, .nameAndType 31 32), (0, u "bytes"), (0, u "()[B"), (0, .methodref 14 34), (0, .nameAndType 35 36), (0, u "equals"), (0, u "(Ljava/lang/Object;)Z"), (3, u "law"), (0, u "(IIII)Z")] 6

def k1m0 : Method := { name := "<init>", desc := "()V", sig := { parameters := [], returnType := none }, accessFlags := 2, code := none }
def k1c1 : Code := { maxStack := 4, maxLocals := 4, code := method_2_code, exceptionTable := #[], attributes := #[] }
def k1m1 : Method := { name := "make", desc := "(IIII)[B", sig := { parameters := [.int, .int, .int, .int], returnType := some (.array .byte) }, accessFlags := 10, code := some k1c1 }
def k1c2 : Code := { maxStack := 4, maxLocals := 12, code := code, exceptionTable := #[], attributes := #[] }
def k1m2 : Method := { name := "law", desc := "(IIII)Z", sig := { parameters := [.int, .int, .int, .int], returnType := some .boolean }, accessFlags := 9, code := some k1c2 }
/-- com/example/tasdik/tasdik/core/cbor/CborValueByteStringPinLaw -/
def k1 : Class := { plain "com/example/tasdik/tasdik/core/cbor/CborValueByteStringPinLaw" (some 0) with
  accessFlags := 49
  interfaces := #[]
  cf := some (fileOf pool1 8 #[] #[{ accessFlags := 2, nameIndex := 5, descriptorIndex := 6, attributes := #[] }, { accessFlags := 10, nameIndex := 11, descriptorIndex := 12, attributes := #[] }, { accessFlags := 9, nameIndex := 40, descriptorIndex := 41, attributes := #[] }] 49 2 #[] #[])
  fields := #[]
  methods := #[k1m0, k1m1, k1m2]
  instanceTypes := #[]
  staticTypes := #[]
  resolved := Array.replicate 48 none
  statics := none }

def pool2 : Array CpInfo := pool [(1, .methodref 2 3), (0, .class_ 4), (0, .nameAndType 5 6), (0, u "java/lang/Object"), (0, u "<init>"), (0, u "()V"), (0, .fieldref 8 9), (0, .class_ 10), (0, .nameAndType 11 12), (0, u "com/example/tasdik/tasdik/core/cbor/CborValue"), (0, u "type"), (0, u "Lcom/example/tasdik/tasdik/core/cbor/CborValue$Type;"), (0, .fieldref 8 14), (0, .nameAndType 15 16), (0, u "number"), (0, u "Ljava/math/BigInteger;"), (0, .fieldref 8 18), (0, .nameAndType 19 20), (0, u "floatValue"), (0, u "D"), (0, .fieldref 8 22), (0, .nameAndType 23 24), (0, u "bytes"), (0, u "[B"), (0, .fieldref 8 26), (0, .nameAndType 27 28), (0, u "text"), (0, u "Ljava/lang/String;"), (0, .fieldref 8 30), (0, .nameAndType 31 32), (0, u "items"), (0, u "Ljava/util/List;"), (0, .fieldref 8 34), (0, .nameAndType 35 36), (0, u "entries"), (0, u "Ljava/util/Map;"), (5, u "([B)Lcom/example/tasdik/tasdik/core/cbor/CborValue;"), (1, .class_ 46), (1, u "com/example/tasdik/tasdik/core/cbor/CborValue$Type"), (1, .interfaceMethodref 49 50), (0, .class_ 51), (0, .nameAndType 52 53), (0, u "java/util/List"), (0, u "of"), (0, u "()Ljava/util/List;"), (0, .interfaceMethodref 55 56), (0, .class_ 57), (0, .nameAndType 52 58), (0, u "java/util/Map"), (0, u "()Ljava/util/Map;"), (0, .methodref 8 60), (0, .nameAndType 5 61), (0, u "(Lcom/example/tasdik/tasdik/core/cbor/CborValue$Type;Ljava/math/BigInteger;D[BLjava/lang/String;Ljava/util/List;Ljava/util/Map;)V"), (0, .fieldref 44 63), (0, .nameAndType 64 12), (0, u "BYTE_STRING"), (49, .methodref 8 115), (0, .nameAndType 116 117), (0, u "expect"), (0, u "(Lcom/example/tasdik/tasdik/core/cbor/CborValue$Type;)V"), (0, .methodref 119 120), (0, .class_ 24), (0, .nameAndType 121 122), (0, u "clone"), (0, u "()Ljava/lang/Object;"), (14, .methodref 8 138), (0, .nameAndType 139 140), (0, u "compare"), (0, u "(Lcom/example/tasdik/tasdik/core/cbor/CborValue;Lcom/example/tasdik/tasdik/core/cbor/CborValue;)I"), (12, .class_ 155), (1, u "java/util/Arrays"), (13, .methodref 44 170), (0, .nameAndType 171 172), (0, u "compareTo"), (0, u "(Ljava/lang/Enum;)I"), (0, .methodref 44 174), (0, .nameAndType 175 176), (0, u "ordinal"), (0, u "()I"), (8, .methodref 153 186), (0, .nameAndType 187 188), (0, u "compareUnsigned"), (0, u "([B[B)I"), (10, u "equals"), (0, u "(Ljava/lang/Object;)Z"), (57, u "ORDER"), (0, u "Ljava/util/Comparator;"), (12, u "byteString"), (12, u "()Lcom/example/tasdik/tasdik/core/cbor/CborValue$Type;"), (0, u "()[B")] 39

def k2c0 : Code := { maxStack := 3, maxLocals := 9, code := prog_21_method_1_code, exceptionTable := #[], attributes := #[] }
def k2m0 : Method := { name := "<init>", desc := "(Lcom/example/tasdik/tasdik/core/cbor/CborValue$Type;Ljava/math/BigInteger;D[BLjava/lang/String;Ljava/util/List;Ljava/util/Map;)V", sig := { parameters := [(.object "com/example/tasdik/tasdik/core/cbor/CborValue$Type"), (.object "java/math/BigInteger"), .double, (.array .byte), (.object "java/lang/String"), (.object "java/util/List"), (.object "java/util/Map")], returnType := none }, accessFlags := 2, code := some k2c0 }
def k2c1 : Code := { maxStack := 10, maxLocals := 1, code := prog_21_method_4_code, exceptionTable := #[], attributes := #[] }
def k2m1 : Method := { name := "byteString", desc := "([B)Lcom/example/tasdik/tasdik/core/cbor/CborValue;", sig := { parameters := [(.array .byte)], returnType := some (.object "com/example/tasdik/tasdik/core/cbor/CborValue") }, accessFlags := 8, code := some k2c1 }
def k2c2 : Code := { maxStack := 1, maxLocals := 1, code := prog_21_method_11_code, exceptionTable := #[], attributes := #[] }
def k2m2 : Method := { name := "type", desc := "()Lcom/example/tasdik/tasdik/core/cbor/CborValue$Type;", sig := { parameters := [], returnType := some (.object "com/example/tasdik/tasdik/core/cbor/CborValue$Type") }, accessFlags := 1, code := some k2c2 }
def k2c3 : Code := { maxStack := 2, maxLocals := 1, code := prog_21_method_12_code, exceptionTable := #[], attributes := #[] }
def k2m3 : Method := { name := "bytes", desc := "()[B", sig := { parameters := [], returnType := some (.array .byte) }, accessFlags := 1, code := some k2c3 }
def k2c4 : Code := { maxStack := 2, maxLocals := 3, code := prog_21_method_16_code, exceptionTable := #[], attributes := #[] }
def k2m4 : Method := { name := "equals", desc := "(Ljava/lang/Object;)Z", sig := { parameters := [(.object "java/lang/Object")], returnType := some .boolean }, accessFlags := 1, code := some k2c4 }
def k2c5 : Code := { maxStack := 4, maxLocals := 3, code := prog_21_method_18_code, exceptionTable := #[], attributes := #[] }
def k2m5 : Method := { name := "compare", desc := "(Lcom/example/tasdik/tasdik/core/cbor/CborValue;Lcom/example/tasdik/tasdik/core/cbor/CborValue;)I", sig := { parameters := [(.object "com/example/tasdik/tasdik/core/cbor/CborValue"), (.object "com/example/tasdik/tasdik/core/cbor/CborValue")], returnType := some .int }, accessFlags := 10, code := some k2c5 }
def k2c6 : Code := { maxStack := 4, maxLocals := 2, code := prog_21_method_21_code, exceptionTable := #[], attributes := #[] }
def k2m6 : Method := { name := "expect", desc := "(Lcom/example/tasdik/tasdik/core/cbor/CborValue$Type;)V", sig := { parameters := [(.object "com/example/tasdik/tasdik/core/cbor/CborValue$Type")], returnType := none }, accessFlags := 2, code := some k2c6 }
/-- com/example/tasdik/tasdik/core/cbor/CborValue -/
def k2 : Class := { plain "com/example/tasdik/tasdik/core/cbor/CborValue" (some 0) with
  accessFlags := 49
  interfaces := #[]
  cf := some (fileOf pool2 8 #[.nestMembers #[44]] #[{ accessFlags := 2, nameIndex := 5, descriptorIndex := 61, attributes := #[] }, { accessFlags := 8, nameIndex := 272, descriptorIndex := 42, attributes := #[] }, { accessFlags := 1, nameIndex := 11, descriptorIndex := 285, attributes := #[] }, { accessFlags := 1, nameIndex := 23, descriptorIndex := 286, attributes := #[] }, { accessFlags := 1, nameIndex := 199, descriptorIndex := 200, attributes := #[] }, { accessFlags := 10, nameIndex := 139, descriptorIndex := 140, attributes := #[] }, { accessFlags := 2, nameIndex := 116, descriptorIndex := 117, attributes := #[] }] 49 2 #[] #[{ accessFlags := 24, nameIndex := 258, descriptorIndex := 259, attributes := #[] }, { accessFlags := 18, nameIndex := 11, descriptorIndex := 12, attributes := #[] }, { accessFlags := 18, nameIndex := 15, descriptorIndex := 16, attributes := #[] }, { accessFlags := 18, nameIndex := 19, descriptorIndex := 20, attributes := #[] }, { accessFlags := 18, nameIndex := 23, descriptorIndex := 24, attributes := #[] }, { accessFlags := 18, nameIndex := 27, descriptorIndex := 28, attributes := #[] }, { accessFlags := 18, nameIndex := 31, descriptorIndex := 32, attributes := #[] }, { accessFlags := 18, nameIndex := 35, descriptorIndex := 36, attributes := #[] }])
  fields := #[{ name := "ORDER", type := (.object "java/util/Comparator"), accessFlags := 24, slot := 0, constantValue := 0 }, { name := "type", type := (.object "com/example/tasdik/tasdik/core/cbor/CborValue$Type"), accessFlags := 18, slot := 0, constantValue := 0 }, { name := "number", type := (.object "java/math/BigInteger"), accessFlags := 18, slot := 1, constantValue := 0 }, { name := "floatValue", type := .double, accessFlags := 18, slot := 2, constantValue := 0 }, { name := "bytes", type := (.array .byte), accessFlags := 18, slot := 3, constantValue := 0 }, { name := "text", type := (.object "java/lang/String"), accessFlags := 18, slot := 4, constantValue := 0 }, { name := "items", type := (.object "java/util/List"), accessFlags := 18, slot := 5, constantValue := 0 }, { name := "entries", type := (.object "java/util/Map"), accessFlags := 18, slot := 6, constantValue := 0 }]
  methods := #[k2m0, k2m1, k2m2, k2m3, k2m4, k2m5, k2m6]
  instanceTypes := #[(.object "com/example/tasdik/tasdik/core/cbor/CborValue$Type"), (.object "java/math/BigInteger"), .double, (.array .byte), (.object "java/lang/String"), (.object "java/util/List"), (.object "java/util/Map")]
  staticTypes := #[(.object "java/util/Comparator")]
  resolved := Array.replicate 326 none
  statics := none }

def pool3 : Array CpInfo := pool [(1, .class_ 2), (0, u "java/lang/constant/Constable"), (0, .class_ 4), (0, u "java/lang/Object")] 6

/-- java/lang/constant/Constable -/
def k3 : Class := { plain "java/lang/constant/Constable" (some 0) with
  accessFlags := 1537
  interfaces := #[]
  cf := some (fileOf pool3 1 #[] #[] 1537 3 #[] #[])
  fields := #[]
  methods := #[]
  instanceTypes := #[]
  staticTypes := #[]
  resolved := Array.replicate 11 none
  statics := none }

def pool4 : Array CpInfo := pool [(1, .class_ 2), (0, u "java/lang/Comparable"), (0, .class_ 4), (0, u "java/lang/Object")] 7

/-- java/lang/Comparable -/
def k4 : Class := { plain "java/lang/Comparable" (some 0) with
  accessFlags := 1537
  interfaces := #[]
  cf := some (fileOf pool4 1 #[] #[] 1537 3 #[] #[])
  fields := #[]
  methods := #[]
  instanceTypes := #[]
  staticTypes := #[]
  resolved := Array.replicate 12 none
  statics := none }

def pool5 : Array CpInfo := pool [(1, .class_ 2), (0, u "java/io/Serializable"), (0, .class_ 4), (0, u "java/lang/Object")] 2

/-- java/io/Serializable -/
def k5 : Class := { plain "java/io/Serializable" (some 0) with
  accessFlags := 1537
  interfaces := #[]
  cf := some (fileOf pool5 1 #[] #[] 1537 3 #[] #[])
  fields := #[]
  methods := #[]
  instanceTypes := #[]
  staticTypes := #[]
  resolved := Array.replicate 7 none
  statics := none }

def pool6 : Array CpInfo := pool [(2, .class_ 4), (1, u "java/lang/Enum"), (0, u "name"), (0, u "Ljava/lang/String;"), (0, .fieldref 2 8), (0, .nameAndType 9 10), (0, u "ordinal"), (0, u "I"), (1, .class_ 14), (1, u "java/lang/Object"), (4, u "hash"), (9, .methodref 12 30), (0, .nameAndType 31 32), (0, u "getClass"), (0, u "()Ljava/lang/Class;"), (70, u "compareTo"), (0, u "(Ljava/lang/Enum;)I"), (1, .class_ 108), (1, u "java/lang/Enum$EnumDesc"), (2, .class_ 112), (0, u "java/lang/constant/Constable"), (0, .class_ 114), (0, u "java/lang/Comparable"), (0, .class_ 116), (0, u "java/io/Serializable"), (9, u "()I")] 77

def k6c0 : Code := { maxStack := 1, maxLocals := 1, code := jdk_37_method_2_code, exceptionTable := #[], attributes := #[] }
def k6m0 : Method := { name := "ordinal", desc := "()I", sig := { parameters := [], returnType := some .int }, accessFlags := 17, code := some k6c0 }
def k6c1 : Code := { maxStack := 2, maxLocals := 4, code := jdk_37_method_8_code, exceptionTable := #[], attributes := #[] }
def k6m1 : Method := { name := "compareTo", desc := "(Ljava/lang/Enum;)I", sig := { parameters := [(.object "java/lang/Enum")], returnType := some .int }, accessFlags := 17, code := some k6c1 }
/-- java/lang/Enum -/
def k6 : Class := { plain "java/lang/Enum" (some 0) with
  accessFlags := 1057
  interfaces := #[3, 4, 5]
  cf := some (fileOf pool6 2 #[.nestMembers #[106]] #[{ accessFlags := 17, nameIndex := 9, descriptorIndex := 126, attributes := #[] }, { accessFlags := 17, nameIndex := 103, descriptorIndex := 104, attributes := #[] }] 1057 12 #[111, 113, 115] #[{ accessFlags := 18, nameIndex := 5, descriptorIndex := 6, attributes := #[] }, { accessFlags := 18, nameIndex := 9, descriptorIndex := 10, attributes := #[] }, { accessFlags := 2, nameIndex := 19, descriptorIndex := 10, attributes := #[] }])
  fields := #[{ name := "name", type := (.object "java/lang/String"), accessFlags := 18, slot := 0, constantValue := 0 }, { name := "ordinal", type := .int, accessFlags := 18, slot := 1, constantValue := 0 }, { name := "hash", type := .int, accessFlags := 2, slot := 2, constantValue := 0 }]
  methods := #[k6m0, k6m1]
  instanceTypes := #[(.object "java/lang/String"), .int, .int]
  staticTypes := #[]
  resolved := Array.replicate 204 none
  statics := none }

def pool7 : Array CpInfo := pool [(1, .class_ 2), (0, u "com/example/tasdik/tasdik/core/cbor/CborValue$Type"), (2, u "INTEGER"), (0, u "Lcom/example/tasdik/tasdik/core/cbor/CborValue$Type;"), (2, u "BYTE_STRING"), (2, u "TEXT_STRING"), (2, u "ARRAY"), (2, u "MAP"), (2, u "TAG"), (2, u "SIMPLE"), (2, u "FLOAT"), (2, u "$VALUES"), (0, u "[Lcom/example/tasdik/tasdik/core/cbor/CborValue$Type;"), (6, .class_ 40), (1, u "java/lang/Enum"), (31, .class_ 73), (0, u "com/example/tasdik/tasdik/core/cbor/CborValue")] 2

/-- com/example/tasdik/tasdik/core/cbor/CborValue$Type -/
def k7 : Class := { plain "com/example/tasdik/tasdik/core/cbor/CborValue$Type" (some 6) with
  accessFlags := 16433
  interfaces := #[]
  cf := some (fileOf pool7 1 #[.nestHost 72] #[] 16433 38 #[] #[{ accessFlags := 16409, nameIndex := 5, descriptorIndex := 6, attributes := #[] }, { accessFlags := 16409, nameIndex := 9, descriptorIndex := 6, attributes := #[] }, { accessFlags := 16409, nameIndex := 12, descriptorIndex := 6, attributes := #[] }, { accessFlags := 16409, nameIndex := 15, descriptorIndex := 6, attributes := #[] }, { accessFlags := 16409, nameIndex := 18, descriptorIndex := 6, attributes := #[] }, { accessFlags := 16409, nameIndex := 21, descriptorIndex := 6, attributes := #[] }, { accessFlags := 16409, nameIndex := 24, descriptorIndex := 6, attributes := #[] }, { accessFlags := 16409, nameIndex := 27, descriptorIndex := 6, attributes := #[] }, { accessFlags := 4122, nameIndex := 30, descriptorIndex := 31, attributes := #[] }])
  fields := #[{ name := "INTEGER", type := (.object "com/example/tasdik/tasdik/core/cbor/CborValue$Type"), accessFlags := 16409, slot := 0, constantValue := 0 }, { name := "BYTE_STRING", type := (.object "com/example/tasdik/tasdik/core/cbor/CborValue$Type"), accessFlags := 16409, slot := 1, constantValue := 0 }, { name := "TEXT_STRING", type := (.object "com/example/tasdik/tasdik/core/cbor/CborValue$Type"), accessFlags := 16409, slot := 2, constantValue := 0 }, { name := "ARRAY", type := (.object "com/example/tasdik/tasdik/core/cbor/CborValue$Type"), accessFlags := 16409, slot := 3, constantValue := 0 }, { name := "MAP", type := (.object "com/example/tasdik/tasdik/core/cbor/CborValue$Type"), accessFlags := 16409, slot := 4, constantValue := 0 }, { name := "TAG", type := (.object "com/example/tasdik/tasdik/core/cbor/CborValue$Type"), accessFlags := 16409, slot := 5, constantValue := 0 }, { name := "SIMPLE", type := (.object "com/example/tasdik/tasdik/core/cbor/CborValue$Type"), accessFlags := 16409, slot := 6, constantValue := 0 }, { name := "FLOAT", type := (.object "com/example/tasdik/tasdik/core/cbor/CborValue$Type"), accessFlags := 16409, slot := 7, constantValue := 0 }, { name := "$VALUES", type := (.array (.object "com/example/tasdik/tasdik/core/cbor/CborValue$Type")), accessFlags := 4122, slot := 8, constantValue := 0 }]
  methods := #[]
  instanceTypes := #[(.object "java/lang/String"), .int, .int]
  staticTypes := #[(.object "com/example/tasdik/tasdik/core/cbor/CborValue$Type"), (.object "com/example/tasdik/tasdik/core/cbor/CborValue$Type"), (.object "com/example/tasdik/tasdik/core/cbor/CborValue$Type"), (.object "com/example/tasdik/tasdik/core/cbor/CborValue$Type"), (.object "com/example/tasdik/tasdik/core/cbor/CborValue$Type"), (.object "com/example/tasdik/tasdik/core/cbor/CborValue$Type"), (.object "com/example/tasdik/tasdik/core/cbor/CborValue$Type"), (.object "com/example/tasdik/tasdik/core/cbor/CborValue$Type"), (.array (.object "com/example/tasdik/tasdik/core/cbor/CborValue$Type"))]
  resolved := Array.replicate 76 none
  mirror := some 2
  statics := some 0 }

def pool8 : Array CpInfo := pool [(8, .class_ 10), (1, u "java/lang/Iterable"), (24, .class_ 36), (0, u "java/lang/Object")] 25

/-- java/lang/Iterable -/
def k8 : Class := { plain "java/lang/Iterable" (some 0) with
  accessFlags := 1537
  interfaces := #[]
  cf := some (fileOf pool8 8 #[] #[] 1537 35 #[] #[])
  fields := #[]
  methods := #[]
  instanceTypes := #[]
  staticTypes := #[]
  resolved := Array.replicate 62 none
  statics := none }

def pool9 : Array CpInfo := pool [(10, .class_ 12), (1, u "java/util/Collection"), (47, .class_ 61), (0, u "java/lang/Object"), (0, .class_ 63), (0, u "java/lang/Iterable")] 51

/-- java/util/Collection -/
def k9 : Class := { plain "java/util/Collection" (some 0) with
  accessFlags := 1537
  interfaces := #[8]
  cf := some (fileOf pool9 10 #[] #[] 1537 60 #[62] #[])
  fields := #[]
  methods := #[]
  instanceTypes := #[]
  staticTypes := #[]
  resolved := Array.replicate 115 none
  statics := none }

def pool10 : Array CpInfo := pool [(8, .class_ 10), (1, u "java/util/SequencedCollection"), (15, .class_ 27), (0, u "java/lang/Object"), (0, .class_ 29), (0, u "java/util/Collection")] 27

/-- java/util/SequencedCollection -/
def k10 : Class := { plain "java/util/SequencedCollection" (some 0) with
  accessFlags := 1537
  interfaces := #[9]
  cf := some (fileOf pool10 8 #[] #[] 1537 26 #[28] #[])
  fields := #[]
  methods := #[]
  instanceTypes := #[]
  staticTypes := #[]
  resolved := Array.replicate 57 none
  statics := none }

def pool11 : Array CpInfo := pool [(8, .class_ 10), (1, u "java/util/List"), (77, u "of"), (1, .fieldref 91 92), (0, .class_ 93), (0, .nameAndType 94 95), (0, u "java/util/ImmutableCollections"), (0, u "EMPTY_LIST"), (0, u "Ljava/util/ImmutableCollections$ListN;"), (7, .class_ 104), (0, u "java/lang/Object"), (14, u "()Ljava/util/List;"), (0, .class_ 121), (0, u "java/util/SequencedCollection")] 129

def k11c0 : Code := { maxStack := 1, maxLocals := 0, code := jdk_40_method_36_code, exceptionTable := #[], attributes := #[] }
def k11m0 : Method := { name := "of", desc := "()Ljava/util/List;", sig := { parameters := [], returnType := some (.object "java/util/List") }, accessFlags := 9, code := some k11c0 }
/-- java/util/List -/
def k11 : Class := { plain "java/util/List" (some 0) with
  accessFlags := 1537
  interfaces := #[10]
  cf := some (fileOf pool11 8 #[] #[{ accessFlags := 9, nameIndex := 88, descriptorIndex := 119, attributes := #[] }] 1537 103 #[120] #[])
  fields := #[]
  methods := #[k11m0]
  instanceTypes := #[]
  staticTypes := #[]
  resolved := Array.replicate 251 none
  statics := none }

def pool12 : Array CpInfo := pool [(2, .class_ 4), (1, u "java/lang/Object"), (0, u "<init>"), (0, u "()V"), (3, .class_ 11), (0, u "java/util/ImmutableCollections$List12"), (0, .class_ 13), (0, u "java/util/ImmutableCollections$ListN"), (3, u "Z"), (29, .class_ 49), (1, u "java/util/ImmutableCollections"), (0, u "$assertionsDisabled"), (5, u "[Ljava/lang/Object;"), (5, u "EMPTY_LIST"), (0, u "Ljava/util/ImmutableCollections$ListN;"), (8, u "EMPTY_LIST_NULLS"), (22, u "SALT32L"), (0, u "J"), (2, u "REVERSE"), (6, u "archivedObjects"), (2, u "EMPTY"), (0, u "Ljava/lang/Object;"), (0, .class_ 112), (0, u "java/util/ImmutableCollections$SetN"), (5, u "EMPTY_SET"), (0, u "Ljava/util/ImmutableCollections$SetN;"), (0, .class_ 121), (0, u "java/util/ImmutableCollections$MapN"), (3, u "EMPTY_MAP"), (0, u "Ljava/util/ImmutableCollections$MapN;"), (4, u "EXPAND_FACTOR"), (0, u "I"), (36, .class_ 170), (0, u "java/util/ImmutableCollections$MapN$MapNIterator"), (0, .class_ 172), (0, u "java/util/ImmutableCollections$MapN$1"), (0, .class_ 174), (0, u "java/util/ImmutableCollections$Map1"), (0, .class_ 176), (0, u "java/util/ImmutableCollections$AbstractImmutableMap"), (0, .class_ 178), (0, u "java/util/ImmutableCollections$SetN$SetNIterator"), (0, .class_ 180), (0, u "java/util/ImmutableCollections$Set12"), (0, .class_ 182), (0, u "java/util/ImmutableCollections$Set12$1"), (0, .class_ 184), (0, u "java/util/ImmutableCollections$AbstractImmutableSet"), (0, .class_ 186), (0, u "java/util/ImmutableCollections$SubList"), (0, .class_ 188), (0, u "java/util/ImmutableCollections$ListItr"), (0, .class_ 190), (0, u "java/util/ImmutableCollections$AbstractImmutableList"), (0, .class_ 192), (0, u "java/util/ImmutableCollections$AbstractImmutableCollection"), (0, .class_ 194), (0, u "java/util/ImmutableCollections$Access"), (0, .class_ 196), (0, u "java/util/ImmutableCollections$Access$1")] 16

def k12m0 : Method := { name := "<init>", desc := "()V", sig := { parameters := [], returnType := none }, accessFlags := 2, code := none }
/-- java/util/ImmutableCollections -/
def k12 : Class := { plain "java/util/ImmutableCollections" (some 0) with
  accessFlags := 32
  interfaces := #[]
  cf := some (fileOf pool12 47 #[.nestMembers #[120, 169, 171, 173, 175, 111, 177, 179, 181, 183, 12, 10, 185, 187, 189, 191, 193, 195]] #[{ accessFlags := 2, nameIndex := 5, descriptorIndex := 6, attributes := #[] }] 32 2 #[] #[{ accessFlags := 26, nameIndex := 95, descriptorIndex := 96, attributes := #[] }, { accessFlags := 26, nameIndex := 99, descriptorIndex := 17, attributes := #[] }, { accessFlags := 10, nameIndex := 106, descriptorIndex := 56, attributes := #[] }, { accessFlags := 26, nameIndex := 109, descriptorIndex := 110, attributes := #[] }, { accessFlags := 24, nameIndex := 62, descriptorIndex := 63, attributes := #[] }, { accessFlags := 24, nameIndex := 72, descriptorIndex := 63, attributes := #[] }, { accessFlags := 24, nameIndex := 118, descriptorIndex := 119, attributes := #[] }, { accessFlags := 24, nameIndex := 125, descriptorIndex := 126, attributes := #[] }, { accessFlags := 24, nameIndex := 131, descriptorIndex := 132, attributes := #[] }, { accessFlags := 4120, nameIndex := 50, descriptorIndex := 17, attributes := #[] }])
  fields := #[{ name := "SALT32L", type := .long, accessFlags := 26, slot := 0, constantValue := 0 }, { name := "REVERSE", type := .boolean, accessFlags := 26, slot := 1, constantValue := 0 }, { name := "archivedObjects", type := (.array (.object "java/lang/Object")), accessFlags := 10, slot := 2, constantValue := 0 }, { name := "EMPTY", type := (.object "java/lang/Object"), accessFlags := 26, slot := 3, constantValue := 0 }, { name := "EMPTY_LIST", type := (.object "java/util/ImmutableCollections$ListN"), accessFlags := 24, slot := 4, constantValue := 0 }, { name := "EMPTY_LIST_NULLS", type := (.object "java/util/ImmutableCollections$ListN"), accessFlags := 24, slot := 5, constantValue := 0 }, { name := "EMPTY_SET", type := (.object "java/util/ImmutableCollections$SetN"), accessFlags := 24, slot := 6, constantValue := 0 }, { name := "EMPTY_MAP", type := (.object "java/util/ImmutableCollections$MapN"), accessFlags := 24, slot := 7, constantValue := 0 }, { name := "EXPAND_FACTOR", type := .int, accessFlags := 24, slot := 8, constantValue := 0 }, { name := "$assertionsDisabled", type := .boolean, accessFlags := 4120, slot := 9, constantValue := 0 }]
  methods := #[k12m0]
  instanceTypes := #[]
  staticTypes := #[.long, .boolean, (.array (.object "java/lang/Object")), (.object "java/lang/Object"), (.object "java/util/ImmutableCollections$ListN"), (.object "java/util/ImmutableCollections$ListN"), (.object "java/util/ImmutableCollections$SetN"), (.object "java/util/ImmutableCollections$MapN"), .int, .boolean]
  resolved := Array.replicate 213 none
  statics := some 1 }

def pool13 : Array CpInfo := pool [(2, .class_ 4), (1, u "java/util/Map"), (31, .class_ 37), (0, u "java/util/Map$Entry"), (43, .fieldref 82 83), (0, .class_ 84), (0, .nameAndType 85 86), (0, u "java/util/ImmutableCollections"), (0, u "EMPTY_MAP"), (0, u "Ljava/util/ImmutableCollections$MapN;"), (6, .class_ 94), (0, u "java/lang/Object"), (13, u "of"), (0, u "()Ljava/util/Map;")] 153

def k13c0 : Code := { maxStack := 1, maxLocals := 0, code := jdk_72_method_26_code, exceptionTable := #[], attributes := #[] }
def k13m0 : Method := { name := "of", desc := "()Ljava/util/Map;", sig := { parameters := [], returnType := some (.object "java/util/Map") }, accessFlags := 9, code := some k13c0 }
/-- java/util/Map -/
def k13 : Class := { plain "java/util/Map" (some 0) with
  accessFlags := 1537
  interfaces := #[]
  cf := some (fileOf pool13 2 #[.nestMembers #[36]] #[{ accessFlags := 9, nameIndex := 108, descriptorIndex := 109, attributes := #[] }] 1537 93 #[] #[])
  fields := #[]
  methods := #[k13m0]
  instanceTypes := #[]
  staticTypes := #[]
  resolved := Array.replicate 263 none
  statics := none }

def pool14 : Array CpInfo := pool [(1, .class_ 2), (0, u "java/lang/Cloneable"), (0, .class_ 4), (0, u "java/lang/Object")] 2

/-- java/lang/Cloneable -/
def k14 : Class := { plain "java/lang/Cloneable" (some 0) with
  accessFlags := 1537
  interfaces := #[]
  cf := some (fileOf pool14 1 #[] #[] 1537 3 #[] #[])
  fields := #[]
  methods := #[]
  instanceTypes := #[]
  staticTypes := #[]
  resolved := Array.replicate 7 none
  statics := none }

def pool15 : Array CpInfo := pool [(2, .class_ 4), (1, u "java/lang/Object"), (0, u "<init>"), (0, u "()V"), (7, .class_ 16), (1, u "java/util/Arrays"), (57, .class_ 76), (1, u "java/util/Arrays$NaturalOrder"), (36, .class_ 115), (1, u "java/util/Arrays$LegacyMergeSort"), (1, u "Z"), (128, .class_ 248), (1, u "jdk/internal/util/ArraysSupport"), (0, u "mismatch"), (22, .methodref 246 273), (0, .nameAndType 249 274), (0, u "([B[BI)I"), (29, .methodref 305 306), (0, .class_ 307), (0, .nameAndType 308 309), (0, u "java/lang/Math"), (0, u "min"), (0, u "(II)I"), (65, .class_ 376), (0, u "java/util/Arrays$ArrayList"), (68, u "$assertionsDisabled"), (242, u "compareUnsigned"), (26, u "MIN_ARRAY_SORT_GRAN"), (0, u "I"), (2, u "INSERTIONSORT_THRESHOLD"), (216, u "([B[B)I"), (38, .class_ 976), (0, u "java/util/Arrays$ArrayItr")] 52

def k15m0 : Method := { name := "<init>", desc := "()V", sig := { parameters := [], returnType := none }, accessFlags := 2, code := none }
def k15c1 : Code := { maxStack := 4, maxLocals := 3, code := jdk_65_method_201_code, exceptionTable := #[], attributes := #[] }
def k15m1 : Method := { name := "compareUnsigned", desc := "([B[B)I", sig := { parameters := [(.array .byte), (.array .byte)], returnType := some .int }, accessFlags := 9, code := some k15c1 }
/-- java/util/Arrays -/
def k15 : Class := { plain "java/util/Arrays" (some 0) with
  accessFlags := 49
  interfaces := #[]
  cf := some (fileOf pool15 14 #[.nestMembers #[975, 375, 113, 74]] #[{ accessFlags := 2, nameIndex := 5, descriptorIndex := 6, attributes := #[] }, { accessFlags := 9, nameIndex := 688, descriptorIndex := 936, attributes := #[] }] 49 2 #[] #[{ accessFlags := 26, nameIndex := 715, descriptorIndex := 716, attributes := #[] }, { accessFlags := 26, nameIndex := 719, descriptorIndex := 716, attributes := #[] }, { accessFlags := 4120, nameIndex := 445, descriptorIndex := 117, attributes := #[] }])
  fields := #[{ name := "MIN_ARRAY_SORT_GRAN", type := .int, accessFlags := 26, slot := 0, constantValue := 0 }, { name := "INSERTIONSORT_THRESHOLD", type := .int, accessFlags := 26, slot := 1, constantValue := 0 }, { name := "$assertionsDisabled", type := .boolean, accessFlags := 4120, slot := 2, constantValue := 0 }]
  methods := #[k15m0, k15m1]
  instanceTypes := #[]
  staticTypes := #[.int, .int, .boolean]
  resolved := Array.replicate 1029 none
  statics := none }

def pool16 : Array CpInfo := pool [(1, .class_ 2), (0, u "java/lang/Math"), (1, .class_ 6), (1, u "java/lang/Object"), (0, u "<init>"), (0, u "()V"), (89, .class_ 100), (1, u "java/lang/Math$RandomNumberGeneratorHolder"), (71, u "negativeZeroFloatBits"), (0, u "J"), (2, u "negativeZeroDoubleBits"), (24, u "min"), (43, u "$assertionsDisabled"), (0, u "Z"), (88, u "(II)I"), (2, u "twoToTheDoubleScaleDown"), (0, u "D"), (4, u "twoToTheDoubleScaleUp"), (9, u "E"), (3, u "PI"), (2, u "TAU"), (2, u "DEGREES_TO_RADIANS"), (0, u "RADIANS_TO_DEGREES")] 94

def k16m0 : Method := { name := "<init>", desc := "()V", sig := { parameters := [], returnType := none }, accessFlags := 2, code := none }
def k16c1 : Code := { maxStack := 2, maxLocals := 2, code := jdk_29_method_69_code, exceptionTable := #[], attributes := #[] }
def k16m1 : Method := { name := "min", desc := "(II)I", sig := { parameters := [.int, .int], returnType := some .int }, accessFlags := 9, code := some k16c1 }
/-- java/lang/Math -/
def k16 : Class := { plain "java/lang/Math" (some 0) with
  accessFlags := 49
  interfaces := #[]
  cf := some (fileOf pool16 1 #[.nestMembers #[98]] #[{ accessFlags := 2, nameIndex := 7, descriptorIndex := 8, attributes := #[] }, { accessFlags := 9, nameIndex := 201, descriptorIndex := 335, attributes := #[] }] 49 4 #[] #[{ accessFlags := 25, nameIndex := 354, descriptorIndex := 339, attributes := #[] }, { accessFlags := 25, nameIndex := 358, descriptorIndex := 339, attributes := #[] }, { accessFlags := 25, nameIndex := 361, descriptorIndex := 339, attributes := #[] }, { accessFlags := 26, nameIndex := 364, descriptorIndex := 339, attributes := #[] }, { accessFlags := 26, nameIndex := 365, descriptorIndex := 339, attributes := #[] }, { accessFlags := 26, nameIndex := 172, descriptorIndex := 173, attributes := #[] }, { accessFlags := 26, nameIndex := 176, descriptorIndex := 173, attributes := #[] }, { accessFlags := 8, nameIndex := 344, descriptorIndex := 339, attributes := #[] }, { accessFlags := 8, nameIndex := 338, descriptorIndex := 339, attributes := #[] }, { accessFlags := 4120, nameIndex := 245, descriptorIndex := 246, attributes := #[] }])
  fields := #[{ name := "E", type := .double, accessFlags := 25, slot := 0, constantValue := 0 }, { name := "PI", type := .double, accessFlags := 25, slot := 1, constantValue := 0 }, { name := "TAU", type := .double, accessFlags := 25, slot := 2, constantValue := 0 }, { name := "DEGREES_TO_RADIANS", type := .double, accessFlags := 26, slot := 3, constantValue := 0 }, { name := "RADIANS_TO_DEGREES", type := .double, accessFlags := 26, slot := 4, constantValue := 0 }, { name := "negativeZeroFloatBits", type := .long, accessFlags := 26, slot := 5, constantValue := 0 }, { name := "negativeZeroDoubleBits", type := .long, accessFlags := 26, slot := 6, constantValue := 0 }, { name := "twoToTheDoubleScaleUp", type := .double, accessFlags := 8, slot := 7, constantValue := 0 }, { name := "twoToTheDoubleScaleDown", type := .double, accessFlags := 8, slot := 8, constantValue := 0 }, { name := "$assertionsDisabled", type := .boolean, accessFlags := 4120, slot := 9, constantValue := 0 }]
  methods := #[k16m0, k16m1]
  instanceTypes := #[]
  staticTypes := #[.double, .double, .double, .double, .double, .long, .long, .double, .double, .boolean]
  resolved := Array.replicate 460 none
  statics := none }

def pool17 : Array CpInfo := pool [(9, u "<init>"), (6, .class_ 18), (1, u "java/lang/Object"), (0, u "()V"), (1, .class_ 23), (1, u "jdk/internal/util/ArraysSupport"), (0, u "LOG2_ARRAY_LONG_INDEX_SCALE"), (0, u "I"), (2, u "U"), (0, u "Ljdk/internal/misc/Unsafe;"), (8, u "BIG_ENDIAN"), (0, u "Z"), (8, u "LOG2_BYTE_BIT_SIZE"), (4, u "LOG2_ARRAY_INT_INDEX_SCALE"), (54, u "JLA"), (0, u "Ljdk/internal/access/JavaLangAccess;"), (11, u "LOG2_ARRAY_BOOLEAN_INDEX_SCALE"), (9, u "LOG2_ARRAY_BYTE_INDEX_SCALE"), (5, u "LOG2_ARRAY_CHAR_INDEX_SCALE"), (5, u "LOG2_ARRAY_SHORT_INDEX_SCALE"), (5, u "mismatch"), (12, u "LOG2_ARRAY_FLOAT_INDEX_SCALE"), (24, u "LOG2_ARRAY_DOUBLE_INDEX_SCALE"), (89, u "T_BOOLEAN"), (2, u "T_CHAR"), (1, u "T_FLOAT"), (1, u "T_DOUBLE"), (1, u "T_BYTE"), (1, u "T_SHORT"), (1, u "T_INT"), (1, u "T_LONG"), (1, u "SOFT_MAX_ARRAY_LENGTH"), (41, u "([B[BI)I")] 41

def k17m0 : Method := { name := "<init>", desc := "()V", sig := { parameters := [], returnType := none }, accessFlags := 2, code := none }
def k17c1 : Code := { maxStack := 8, maxLocals := 4, code := jdk_48_method_13_code, exceptionTable := #[], attributes := #[] }
def k17m1 : Method := { name := "mismatch", desc := "([B[BI)I", sig := { parameters := [(.array .byte), (.array .byte), .int], returnType := some .int }, accessFlags := 9, code := some k17c1 }
/-- jdk/internal/util/ArraysSupport -/
def k17 : Class := { plain "jdk/internal/util/ArraysSupport" (some 0) with
  accessFlags := 33
  interfaces := #[]
  cf := some (fileOf pool17 21 #[] #[{ accessFlags := 2, nameIndex := 9, descriptorIndex := 19, attributes := #[] }, { accessFlags := 9, nameIndex := 149, descriptorIndex := 336, attributes := #[] }] 33 16 #[] #[{ accessFlags := 24, nameIndex := 28, descriptorIndex := 29, attributes := #[] }, { accessFlags := 26, nameIndex := 38, descriptorIndex := 39, attributes := #[] }, { accessFlags := 25, nameIndex := 121, descriptorIndex := 25, attributes := #[] }, { accessFlags := 25, nameIndex := 131, descriptorIndex := 25, attributes := #[] }, { accessFlags := 25, nameIndex := 137, descriptorIndex := 25, attributes := #[] }, { accessFlags := 25, nameIndex := 143, descriptorIndex := 25, attributes := #[] }, { accessFlags := 25, nameIndex := 53, descriptorIndex := 25, attributes := #[] }, { accessFlags := 25, nameIndex := 24, descriptorIndex := 25, attributes := #[] }, { accessFlags := 25, nameIndex := 162, descriptorIndex := 25, attributes := #[] }, { accessFlags := 25, nameIndex := 187, descriptorIndex := 25, attributes := #[] }, { accessFlags := 26, nameIndex := 48, descriptorIndex := 25, attributes := #[] }, { accessFlags := 25, nameIndex := 277, descriptorIndex := 25, attributes := #[] }, { accessFlags := 25, nameIndex := 280, descriptorIndex := 25, attributes := #[] }, { accessFlags := 25, nameIndex := 282, descriptorIndex := 25, attributes := #[] }, { accessFlags := 25, nameIndex := 284, descriptorIndex := 25, attributes := #[] }, { accessFlags := 25, nameIndex := 286, descriptorIndex := 25, attributes := #[] }, { accessFlags := 25, nameIndex := 288, descriptorIndex := 25, attributes := #[] }, { accessFlags := 25, nameIndex := 290, descriptorIndex := 25, attributes := #[] }, { accessFlags := 25, nameIndex := 292, descriptorIndex := 25, attributes := #[] }, { accessFlags := 26, nameIndex := 108, descriptorIndex := 109, attributes := #[] }, { accessFlags := 25, nameIndex := 294, descriptorIndex := 25, attributes := #[] }])
  fields := #[{ name := "U", type := (.object "jdk/internal/misc/Unsafe"), accessFlags := 24, slot := 0, constantValue := 0 }, { name := "BIG_ENDIAN", type := .boolean, accessFlags := 26, slot := 1, constantValue := 0 }, { name := "LOG2_ARRAY_BOOLEAN_INDEX_SCALE", type := .int, accessFlags := 25, slot := 2, constantValue := 0 }, { name := "LOG2_ARRAY_BYTE_INDEX_SCALE", type := .int, accessFlags := 25, slot := 3, constantValue := 0 }, { name := "LOG2_ARRAY_CHAR_INDEX_SCALE", type := .int, accessFlags := 25, slot := 4, constantValue := 0 }, { name := "LOG2_ARRAY_SHORT_INDEX_SCALE", type := .int, accessFlags := 25, slot := 5, constantValue := 0 }, { name := "LOG2_ARRAY_INT_INDEX_SCALE", type := .int, accessFlags := 25, slot := 6, constantValue := 0 }, { name := "LOG2_ARRAY_LONG_INDEX_SCALE", type := .int, accessFlags := 25, slot := 7, constantValue := 0 }, { name := "LOG2_ARRAY_FLOAT_INDEX_SCALE", type := .int, accessFlags := 25, slot := 8, constantValue := 0 }, { name := "LOG2_ARRAY_DOUBLE_INDEX_SCALE", type := .int, accessFlags := 25, slot := 9, constantValue := 0 }, { name := "LOG2_BYTE_BIT_SIZE", type := .int, accessFlags := 26, slot := 10, constantValue := 0 }, { name := "T_BOOLEAN", type := .int, accessFlags := 25, slot := 11, constantValue := 0 }, { name := "T_CHAR", type := .int, accessFlags := 25, slot := 12, constantValue := 0 }, { name := "T_FLOAT", type := .int, accessFlags := 25, slot := 13, constantValue := 0 }, { name := "T_DOUBLE", type := .int, accessFlags := 25, slot := 14, constantValue := 0 }, { name := "T_BYTE", type := .int, accessFlags := 25, slot := 15, constantValue := 0 }, { name := "T_SHORT", type := .int, accessFlags := 25, slot := 16, constantValue := 0 }, { name := "T_INT", type := .int, accessFlags := 25, slot := 17, constantValue := 0 }, { name := "T_LONG", type := .int, accessFlags := 25, slot := 18, constantValue := 0 }, { name := "JLA", type := (.object "jdk/internal/access/JavaLangAccess"), accessFlags := 26, slot := 19, constantValue := 0 }, { name := "SOFT_MAX_ARRAY_LENGTH", type := .int, accessFlags := 25, slot := 20, constantValue := 0 }]
  methods := #[k17m0, k17m1]
  instanceTypes := #[]
  staticTypes := #[(.object "jdk/internal/misc/Unsafe"), .boolean, .int, .int, .int, .int, .int, .int, .int, .int, .int, .int, .int, .int, .int, .int, .int, .int, .int, (.object "jdk/internal/access/JavaLangAccess"), .int]
  resolved := Array.replicate 378 none
  statics := none }

def pool18 : Array CpInfo := pool [(2, .class_ 4), (1, u "java/lang/Object"), (0, u "<init>"), (0, u "()V"), (1, .class_ 10), (1, u "java/util/AbstractCollection"), (66, .class_ 78), (0, u "java/util/Collection")] 81

def k18m0 : Method := { name := "<init>", desc := "()V", sig := { parameters := [], returnType := none }, accessFlags := 4, code := none }
/-- java/util/AbstractCollection -/
def k18 : Class := { plain "java/util/AbstractCollection" (some 0) with
  accessFlags := 1057
  interfaces := #[9]
  cf := some (fileOf pool18 8 #[] #[{ accessFlags := 4, nameIndex := 5, descriptorIndex := 6, attributes := #[] }] 1057 2 #[77] #[])
  fields := #[]
  methods := #[k18m0]
  instanceTypes := #[]
  staticTypes := #[]
  resolved := Array.replicate 160 none
  statics := none }

def pool19 : Array CpInfo := pool [(2, .class_ 4), (1, u "java/util/AbstractCollection"), (0, u "<init>"), (0, u "()V"), (1, .class_ 10), (1, u "java/util/ImmutableCollections"), (2, .class_ 14), (0, u "java/util/ImmutableCollections$AbstractImmutableCollection")] 41

def k19m0 : Method := { name := "<init>", desc := "()V", sig := { parameters := [], returnType := none }, accessFlags := 0, code := none }
/-- java/util/ImmutableCollections$AbstractImmutableCollection -/
def k19 : Class := { plain "java/util/ImmutableCollections$AbstractImmutableCollection" (some 18) with
  accessFlags := 1056
  interfaces := #[]
  cf := some (fileOf pool19 13 #[.nestHost 8] #[{ accessFlags := 0, nameIndex := 5, descriptorIndex := 6, attributes := #[] }] 1056 2 #[] #[])
  fields := #[]
  methods := #[k19m0]
  instanceTypes := #[]
  staticTypes := #[]
  resolved := Array.replicate 56 none
  statics := none }

def pool20 : Array CpInfo := pool [(1, .class_ 2), (0, u "java/util/RandomAccess"), (0, .class_ 4), (0, u "java/lang/Object")] 2

/-- java/util/RandomAccess -/
def k20 : Class := { plain "java/util/RandomAccess" (some 0) with
  accessFlags := 1537
  interfaces := #[]
  cf := some (fileOf pool20 1 #[] #[] 1537 3 #[] #[])
  fields := #[]
  methods := #[]
  instanceTypes := #[]
  staticTypes := #[]
  resolved := Array.replicate 7 none
  statics := none }

def pool21 : Array CpInfo := pool [(2, .class_ 4), (1, u "java/util/ImmutableCollections$AbstractImmutableCollection"), (0, u "<init>"), (0, u "()V"), (1, .class_ 10), (1, u "java/util/ImmutableCollections"), (3, .class_ 16), (1, u "java/util/ImmutableCollections$AbstractImmutableList"), (60, .class_ 78), (0, u "java/util/List"), (45, .class_ 125), (0, u "java/util/RandomAccess")] 70

def k21m0 : Method := { name := "<init>", desc := "()V", sig := { parameters := [], returnType := none }, accessFlags := 0, code := none }
/-- java/util/ImmutableCollections$AbstractImmutableList -/
def k21 : Class := { plain "java/util/ImmutableCollections$AbstractImmutableList" (some 19) with
  accessFlags := 1056
  interfaces := #[11, 20]
  cf := some (fileOf pool21 14 #[.nestHost 8] #[{ accessFlags := 0, nameIndex := 5, descriptorIndex := 6, attributes := #[] }] 1056 2 #[77, 124] #[])
  fields := #[]
  methods := #[k21m0]
  instanceTypes := #[]
  staticTypes := #[]
  resolved := Array.replicate 196 none
  statics := none }

def pool22 : Array CpInfo := pool [(2, .class_ 4), (1, u "java/util/ImmutableCollections$AbstractImmutableList"), (3, .class_ 10), (1, u "java/util/ImmutableCollections$ListN"), (0, u "elements"), (0, u "[Ljava/lang/Object;"), (2, u "allowNulls"), (0, u "Z"), (42, .class_ 60), (0, u "java/io/Serializable"), (53, .class_ 115), (0, u "java/util/ImmutableCollections")] 3

/-- java/util/ImmutableCollections$ListN -/
def k22 : Class := { plain "java/util/ImmutableCollections$ListN" (some 21) with
  accessFlags := 48
  interfaces := #[5]
  cf := some (fileOf pool22 8 #[.nestHost 114] #[] 48 2 #[59] #[{ accessFlags := 18, nameIndex := 11, descriptorIndex := 12, attributes := #[] }, { accessFlags := 18, nameIndex := 15, descriptorIndex := 16, attributes := #[] }])
  fields := #[{ name := "elements", type := (.array (.object "java/lang/Object")), accessFlags := 18, slot := 0, constantValue := 0 }, { name := "allowNulls", type := .boolean, accessFlags := 18, slot := 1, constantValue := 0 }]
  methods := #[]
  instanceTypes := #[(.array (.object "java/lang/Object")), .boolean]
  staticTypes := #[]
  resolved := Array.replicate 119 none
  statics := none }

def pool23 : Array CpInfo := pool [(2, .class_ 4), (1, u "java/lang/Object"), (0, u "<init>"), (0, u "()V"), (1, .class_ 10), (1, u "java/util/AbstractMap"), (42, .class_ 54), (0, u "java/util/Map"), (9, u "keySet"), (0, u "Ljava/util/Set;"), (0, .class_ 67), (0, u "java/util/AbstractMap$1"), (5, u "values"), (0, u "Ljava/util/Collection;"), (0, .class_ 76), (0, u "java/util/AbstractMap$2"), (104, .class_ 182), (0, u "java/util/AbstractMap$ViewCollection"), (0, .class_ 184), (0, u "java/util/AbstractMap$SimpleImmutableEntry"), (0, .class_ 186), (0, u "java/util/AbstractMap$SimpleEntry"), (0, .class_ 188), (0, u "java/util/AbstractMap$2$1"), (0, .class_ 190), (0, u "java/util/AbstractMap$1$1")] 5

def k23m0 : Method := { name := "<init>", desc := "()V", sig := { parameters := [], returnType := none }, accessFlags := 4, code := none }
/-- java/util/AbstractMap -/
def k23 : Class := { plain "java/util/AbstractMap" (some 0) with
  accessFlags := 1057
  interfaces := #[13]
  cf := some (fileOf pool23 8 #[.nestMembers #[181, 183, 185, 75, 187, 66, 189]] #[{ accessFlags := 4, nameIndex := 5, descriptorIndex := 6, attributes := #[] }] 1057 2 #[53] #[{ accessFlags := 128, nameIndex := 64, descriptorIndex := 65, attributes := #[] }, { accessFlags := 128, nameIndex := 73, descriptorIndex := 74, attributes := #[] }])
  fields := #[{ name := "keySet", type := (.object "java/util/Set"), accessFlags := 128, slot := 0, constantValue := 0 }, { name := "values", type := (.object "java/util/Collection"), accessFlags := 128, slot := 1, constantValue := 0 }]
  methods := #[k23m0]
  instanceTypes := #[(.object "java/util/Set"), (.object "java/util/Collection")]
  staticTypes := #[]
  resolved := Array.replicate 196 none
  statics := none }

def pool24 : Array CpInfo := pool [(2, .class_ 4), (1, u "java/util/AbstractMap"), (0, u "<init>"), (0, u "()V"), (1, .class_ 10), (1, u "java/util/ImmutableCollections"), (3, .class_ 16), (1, u "java/util/ImmutableCollections$AbstractImmutableMap"), (2, .class_ 20), (0, u "java/io/Serializable")] 66

def k24m0 : Method := { name := "<init>", desc := "()V", sig := { parameters := [], returnType := none }, accessFlags := 0, code := none }
/-- java/util/ImmutableCollections$AbstractImmutableMap -/
def k24 : Class := { plain "java/util/ImmutableCollections$AbstractImmutableMap" (some 23) with
  accessFlags := 1056
  interfaces := #[5]
  cf := some (fileOf pool24 14 #[.nestHost 8] #[{ accessFlags := 0, nameIndex := 5, descriptorIndex := 6, attributes := #[] }] 1056 2 #[19] #[])
  fields := #[]
  methods := #[k24m0]
  instanceTypes := #[(.object "java/util/Set"), (.object "java/util/Collection")]
  staticTypes := #[]
  resolved := Array.replicate 87 none
  statics := none }

def pool25 : Array CpInfo := pool [(1, .class_ 2), (0, u "java/util/ImmutableCollections"), (1, .class_ 6), (1, u "java/util/ImmutableCollections$AbstractImmutableMap"), (10, .class_ 19), (1, u "java/util/ImmutableCollections$MapN"), (0, u "size"), (0, u "I"), (4, u "table"), (0, u "[Ljava/lang/Object;")] 121

/-- java/util/ImmutableCollections$MapN -/
def k25 : Class := { plain "java/util/ImmutableCollections$MapN" (some 24) with
  accessFlags := 48
  interfaces := #[]
  cf := some (fileOf pool25 17 #[.nestHost 1] #[] 48 4 #[] #[{ accessFlags := 16, nameIndex := 26, descriptorIndex := 27, attributes := #[] }, { accessFlags := 16, nameIndex := 20, descriptorIndex := 21, attributes := #[] }])
  fields := #[{ name := "table", type := (.array (.object "java/lang/Object")), accessFlags := 16, slot := 2, constantValue := 0 }, { name := "size", type := .int, accessFlags := 16, slot := 3, constantValue := 0 }]
  methods := #[]
  instanceTypes := #[(.object "java/util/Set"), (.object "java/util/Collection"), (.array (.object "java/lang/Object")), .int]
  staticTypes := #[]
  resolved := Array.replicate 149 none
  statics := none }

def pool26 : Array CpInfo := pool [(1, u "java/lang/Class"), (0, .class_ 1), (0, u "java/lang/Object"), (0, .class_ 3)] 3

/-- java/lang/Class -/
def k26 : Class := { plain "java/lang/Class" (some 0) with
  accessFlags := 49
  interfaces := #[]
  cf := some (fileOf pool26 2 #[] #[] 49 4 #[] #[])
  fields := #[]
  methods := #[]
  instanceTypes := #[]
  staticTypes := #[]
  resolved := Array.replicate 8 none
  statics := none }

/-- the primitive byte -/
def k27 : Class := { plain "byte" none with kind := .primitive 'B', accessFlags := 0x411 }
/-- [B -/
def k28 : Class := { plain "[B" (some 0) with kind := .array 27 .byte, interfaces := #[14, 5], accessFlags := 1041 }

/-- the primitive int -/
def k29 : Class := { plain "int" none with kind := .primitive 'I', accessFlags := 0x411 }
/-- [I -/
def k30 : Class := { plain "[I" (some 0) with kind := .array 29 .int, interfaces := #[14, 5], accessFlags := 1041 }

/-- [Ljava/lang/Object; -/
def k31 : Class := { plain "[Ljava/lang/Object;" (some 0) with kind := .array 0 (.object "java/lang/Object"), interfaces := #[14, 5], accessFlags := 1041 }

def heap : Heap := #[{ cls := 7, slots := #[.null, .ref 4, .null, .null, .null, .null, .null, .null, .null], vm := .statics 7 },
  { cls := 12, slots := #[.long 0, .int 0, .null, .null, .ref 5, .null, .null, .ref 6, .int 0, .int 0], vm := .statics 12 },
  { cls := 26, slots := #[], vm := .mirror 7 },
  { cls := 31, slots := #[], vm := .none },
  { cls := 7, slots := #[.null, .int 1, .int 0], vm := .none },
  { cls := 22, slots := #[.ref 3, .int 0], vm := .none },
  { cls := 25, slots := #[.null, .null, .ref 3, .int 0], vm := .none }]
def classes : Array Class := #[k0, k1, k2, k3, k4, k5, k6, k7, k8, k9, k10, k11, k12, k13, k14, k15, k16, k17, k18, k19, k20, k21, k22, k23, k24, k25, k26, k27, k28, k29, k30, k31]
def interned : List (Array UInt16 × Addr) := []
def slotsUsed : Nat := 28
def theMethod : MethodId := ⟨1, 2⟩
def args0 : Array Value := #[.int 2, .int 3, .int 4, .int 5]
def aboutOver (below : List Frame) : State where
  vm := { classes := classes, interned := interned.toArray }
  heap := heap
  slotsUsed := slotsUsed
  threads := #[{ frames := .invoking theMethod args0 :: below }]
def below0 : List Frame := [.native { method := ⟨0, 0⟩, args := #[] }]
def about1 : State := aboutOver below0
def p0 : Program := .bare "" "" ""
def e0 : Env := launch0.env 0 0 0
theorem w_frames : about1.frames = Frame.invoking theMethod args0 :: below0 := rfl
set_option maxRecDepth 65536 in
theorem w_args : argsFit about1.vm theMethod args0 = true := by decide +kernel
set_option maxRecDepth 65536 in
theorem w_heap : heapFits about1 = true := by decide +kernel
set_option maxRecDepth 65536 in
theorem w_runnable : about1.curStatus? = some .runnable := by decide +kernel
set_option maxRecDepth 65536 in
theorem w_alone : about1.alone = true := by decide +kernel
set_option maxRecDepth 65536 in
theorem w_named : about1.methodNamed? x = some theMethod := by decide +kernel
set_option maxRecDepth 65536 in
theorem w_hears : about1.hears theMethod below0 = true := by decide +kernel
set_option maxRecDepth 65536 in
theorem w_ripe : about1.ripe theMethod args0 below0 = true := by decide +kernel
theorem w_running : about1.status = .running := rfl
set_option maxRecDepth 65536 in
theorem w_room : about1.hasRoom e0.platform room_1 = true :=
  launch0.hasRoom_least _ room_1 (by decide +kernel) (by decide +kernel) (by decide +kernel) (by decide +kernel) (by decide +kernel) (by decide +kernel)
theorem allAtoms_all (ts : List Jvm.Cond) (a : Array Jvm.Value) (st : Jvm.State) : (allAtoms ts).before a st = ts.all (fun c => c.before a st) := by
  induction ts with
  | nil => rfl
  | cons c t ih =>
    show (Jvm.Cond.and c (allAtoms t)).before a st = _
    rw [Jvm.Cond.before_and, ih, List.all_cons]
def words1 : List Jvm.Cond := Jvm.Cond.code x code maxLocals ret :: tables_1
/-- a 'code' word, met by the world's own term for the bytes: nothing is compared byte by byte -/
theorem code_word {y : MethodName} {bytes : ByteArray} {mx : Nat} {rt : Option FieldType} {a : Array Value} {s : State} {m : MethodId} {meth : Method} {c : Code} (h1 : s.methodNamed? y = some m) (h2 : s.vm.method? m = some meth) (h3 : meth.code = some c) (h4 : c.code = bytes)
    (h5 : (c.maxLocals == mx && c.exceptionTable.isEmpty && decide (c.maxStack ≤ mostOperands) && decide (meth.sig.returnType = rt) && !meth.locks && decide (parseMethodDescriptor y.desc = some meth.sig)) = true) : (Jvm.Cond.code y bytes mx rt).before a s = true := by
  simp only [Bool.and_eq_true, beq_iff_eq, Bool.not_eq_true', decide_eq_true_eq] at h5
  obtain ⟨⟨⟨⟨⟨g1, g2⟩, g3⟩, g4⟩, g5⟩, g6⟩ := h5
  simp [Cond.before, Cond.holds, Cond.value, h1, h2, h3, h4, g1, g2, g3, g4, g5, g6]
def isCode : Jvm.Cond → Bool
  | .code _ _ _ _ => true
  | _ => false
theorem all_split {L : List Jvm.Cond} {P : Jvm.Cond → Bool} (h1 : L.all (fun c => isCode c || P c) = true) (h2 : ∀ c ∈ L.filter isCode, P c = true) : L.all P = true := by
  refine List.all_eq_true.mpr fun c hc => ?_
  have h := List.all_eq_true.mp h1 c hc
  rcases Bool.eq_false_or_eq_true (isCode c) with hi | hi
  · exact h2 c (List.mem_filter.mpr ⟨hc, hi⟩)
  · simpa [hi] using h
set_option maxRecDepth 65536 in
theorem w_c0 : (Jvm.Cond.code x code maxLocals ret).before args0 about1 = true := code_word (m := ⟨1, 2⟩) (meth := k1m2) (c := k1c2) (by decide +kernel) rfl rfl rfl (by decide +kernel)
set_option maxRecDepth 65536 in
theorem w_c1 : (Jvm.Cond.code ({ cls := "com/example/tasdik/tasdik/core/cbor/CborValueByteStringPinLaw", name := "make", desc := "(IIII)[B" } : Jvm.MethodName) method_2_code (4 : Nat) (Option.some (Jvm.ClassFile.FieldType.array Jvm.ClassFile.FieldType.byte))).before args0 about1 = true := code_word (m := ⟨1, 1⟩) (meth := k1m1) (c := k1c1) (by decide +kernel) rfl rfl rfl (by decide +kernel)
set_option maxRecDepth 65536 in
theorem w_c2 : (Jvm.Cond.code ({ cls := "com/example/tasdik/tasdik/core/cbor/CborValue", name := "byteString", desc := "([B)Lcom/example/tasdik/tasdik/core/cbor/CborValue;" } : Jvm.MethodName) prog_21_method_4_code (1 : Nat) (Option.some (Jvm.ClassFile.FieldType.object "com/example/tasdik/tasdik/core/cbor/CborValue"))).before args0 about1 = true := code_word (m := ⟨2, 1⟩) (meth := k2m1) (c := k2c1) (by decide +kernel) rfl rfl rfl (by decide +kernel)
set_option maxRecDepth 65536 in
theorem w_c3 : (Jvm.Cond.code ({ cls := "java/util/List", name := "of", desc := "()Ljava/util/List;" } : Jvm.MethodName) jdk_40_method_36_code (0 : Nat) (Option.some (Jvm.ClassFile.FieldType.object "java/util/List"))).before args0 about1 = true := code_word (m := ⟨11, 0⟩) (meth := k11m0) (c := k11c0) (by decide +kernel) rfl rfl rfl (by decide +kernel)
set_option maxRecDepth 65536 in
theorem w_c4 : (Jvm.Cond.code ({ cls := "java/util/Map", name := "of", desc := "()Ljava/util/Map;" } : Jvm.MethodName) jdk_72_method_26_code (0 : Nat) (Option.some (Jvm.ClassFile.FieldType.object "java/util/Map"))).before args0 about1 = true := code_word (m := ⟨13, 0⟩) (meth := k13m0) (c := k13c0) (by decide +kernel) rfl rfl rfl (by decide +kernel)
set_option maxRecDepth 65536 in
theorem w_c5 : (Jvm.Cond.code ({ cls := "com/example/tasdik/tasdik/core/cbor/CborValue", name := "<init>", desc := "(Lcom/example/tasdik/tasdik/core/cbor/CborValue$Type;Ljava/math/BigInteger;D[BLjava/lang/String;Ljava/util/List;Ljava/util/Map;)V" } : Jvm.MethodName) prog_21_method_1_code (9 : Nat) (Option.none : Option Jvm.ClassFile.FieldType)).before args0 about1 = true := code_word (m := ⟨2, 0⟩) (meth := k2m0) (c := k2c0) (by decide +kernel) rfl rfl rfl (by decide +kernel)
set_option maxRecDepth 65536 in
theorem w_c6 : (Jvm.Cond.code ({ cls := "java/lang/Object", name := "<init>", desc := "()V" } : Jvm.MethodName) object_method_1_code (1 : Nat) (Option.none : Option Jvm.ClassFile.FieldType)).before args0 about1 = true := code_word (m := ⟨0, 0⟩) (meth := k0m0) (c := k0c0) (by decide +kernel) rfl rfl rfl (by decide +kernel)
set_option maxRecDepth 65536 in
theorem w_c7 : (Jvm.Cond.code ({ cls := "com/example/tasdik/tasdik/core/cbor/CborValue", name := "type", desc := "()Lcom/example/tasdik/tasdik/core/cbor/CborValue$Type;" } : Jvm.MethodName) prog_21_method_11_code (1 : Nat) (Option.some (Jvm.ClassFile.FieldType.object "com/example/tasdik/tasdik/core/cbor/CborValue$Type"))).before args0 about1 = true := code_word (m := ⟨2, 2⟩) (meth := k2m2) (c := k2c2) (by decide +kernel) rfl rfl rfl (by decide +kernel)
set_option maxRecDepth 65536 in
theorem w_c8 : (Jvm.Cond.code ({ cls := "com/example/tasdik/tasdik/core/cbor/CborValue", name := "bytes", desc := "()[B" } : Jvm.MethodName) prog_21_method_12_code (1 : Nat) (Option.some (Jvm.ClassFile.FieldType.array Jvm.ClassFile.FieldType.byte))).before args0 about1 = true := code_word (m := ⟨2, 3⟩) (meth := k2m3) (c := k2c3) (by decide +kernel) rfl rfl rfl (by decide +kernel)
set_option maxRecDepth 65536 in
theorem w_c9 : (Jvm.Cond.code ({ cls := "com/example/tasdik/tasdik/core/cbor/CborValue", name := "expect", desc := "(Lcom/example/tasdik/tasdik/core/cbor/CborValue$Type;)V" } : Jvm.MethodName) prog_21_method_21_code (2 : Nat) (Option.none : Option Jvm.ClassFile.FieldType)).before args0 about1 = true := code_word (m := ⟨2, 6⟩) (meth := k2m6) (c := k2c6) (by decide +kernel) rfl rfl rfl (by decide +kernel)
set_option maxRecDepth 65536 in
theorem w_c10 : (Jvm.Cond.code ({ cls := "com/example/tasdik/tasdik/core/cbor/CborValue", name := "equals", desc := "(Ljava/lang/Object;)Z" } : Jvm.MethodName) prog_21_method_16_code (3 : Nat) (Option.some Jvm.ClassFile.FieldType.boolean)).before args0 about1 = true := code_word (m := ⟨2, 4⟩) (meth := k2m4) (c := k2c4) (by decide +kernel) rfl rfl rfl (by decide +kernel)
set_option maxRecDepth 65536 in
theorem w_c11 : (Jvm.Cond.code ({ cls := "com/example/tasdik/tasdik/core/cbor/CborValue", name := "compare", desc := "(Lcom/example/tasdik/tasdik/core/cbor/CborValue;Lcom/example/tasdik/tasdik/core/cbor/CborValue;)I" } : Jvm.MethodName) prog_21_method_18_code (3 : Nat) (Option.some Jvm.ClassFile.FieldType.int)).before args0 about1 = true := code_word (m := ⟨2, 5⟩) (meth := k2m5) (c := k2c5) (by decide +kernel) rfl rfl rfl (by decide +kernel)
set_option maxRecDepth 65536 in
theorem w_c12 : (Jvm.Cond.code ({ cls := "java/lang/Enum", name := "compareTo", desc := "(Ljava/lang/Enum;)I" } : Jvm.MethodName) jdk_37_method_8_code (4 : Nat) (Option.some Jvm.ClassFile.FieldType.int)).before args0 about1 = true := code_word (m := ⟨6, 1⟩) (meth := k6m1) (c := k6c1) (by decide +kernel) rfl rfl rfl (by decide +kernel)
set_option maxRecDepth 65536 in
theorem w_c13 : (Jvm.Cond.code ({ cls := "java/lang/Enum", name := "ordinal", desc := "()I" } : Jvm.MethodName) jdk_37_method_2_code (1 : Nat) (Option.some Jvm.ClassFile.FieldType.int)).before args0 about1 = true := code_word (m := ⟨6, 0⟩) (meth := k6m0) (c := k6c0) (by decide +kernel) rfl rfl rfl (by decide +kernel)
set_option maxRecDepth 65536 in
theorem w_c14 : (Jvm.Cond.code ({ cls := "java/util/Arrays", name := "compareUnsigned", desc := "([B[B)I" } : Jvm.MethodName) jdk_65_method_201_code (3 : Nat) (Option.some Jvm.ClassFile.FieldType.int)).before args0 about1 = true := code_word (m := ⟨15, 1⟩) (meth := k15m1) (c := k15c1) (by decide +kernel) rfl rfl rfl (by decide +kernel)
set_option maxRecDepth 65536 in
theorem w_c15 : (Jvm.Cond.code ({ cls := "java/lang/Math", name := "min", desc := "(II)I" } : Jvm.MethodName) jdk_29_method_69_code (2 : Nat) (Option.some Jvm.ClassFile.FieldType.int)).before args0 about1 = true := code_word (m := ⟨16, 1⟩) (meth := k16m1) (c := k16c1) (by decide +kernel) rfl rfl rfl (by decide +kernel)
set_option maxRecDepth 65536 in
theorem w_c16 : (Jvm.Cond.code ({ cls := "jdk/internal/util/ArraysSupport", name := "mismatch", desc := "([B[BI)I" } : Jvm.MethodName) jdk_48_method_13_code (4 : Nat) (Option.some Jvm.ClassFile.FieldType.int)).before args0 about1 = true := code_word (m := ⟨17, 1⟩) (meth := k17m1) (c := k17c1) (by decide +kernel) rfl rfl rfl (by decide +kernel)
def codes1 : List Jvm.Cond := [Jvm.Cond.code x code maxLocals ret, Jvm.Cond.code ({ cls := "com/example/tasdik/tasdik/core/cbor/CborValueByteStringPinLaw", name := "make", desc := "(IIII)[B" } : Jvm.MethodName) method_2_code (4 : Nat) (Option.some (Jvm.ClassFile.FieldType.array Jvm.ClassFile.FieldType.byte)), Jvm.Cond.code ({ cls := "com/example/tasdik/tasdik/core/cbor/CborValue", name := "byteString", desc := "([B)Lcom/example/tasdik/tasdik/core/cbor/CborValue;" } : Jvm.MethodName) prog_21_method_4_code (1 : Nat) (Option.some (Jvm.ClassFile.FieldType.object "com/example/tasdik/tasdik/core/cbor/CborValue")), Jvm.Cond.code ({ cls := "java/util/List", name := "of", desc := "()Ljava/util/List;" } : Jvm.MethodName) jdk_40_method_36_code (0 : Nat) (Option.some (Jvm.ClassFile.FieldType.object "java/util/List")), Jvm.Cond.code ({ cls := "java/util/Map", name := "of", desc := "()Ljava/util/Map;" } : Jvm.MethodName) jdk_72_method_26_code (0 : Nat) (Option.some (Jvm.ClassFile.FieldType.object "java/util/Map")), Jvm.Cond.code ({ cls := "com/example/tasdik/tasdik/core/cbor/CborValue", name := "<init>", desc := "(Lcom/example/tasdik/tasdik/core/cbor/CborValue$Type;Ljava/math/BigInteger;D[BLjava/lang/String;Ljava/util/List;Ljava/util/Map;)V" } : Jvm.MethodName) prog_21_method_1_code (9 : Nat) (Option.none : Option Jvm.ClassFile.FieldType), Jvm.Cond.code ({ cls := "java/lang/Object", name := "<init>", desc := "()V" } : Jvm.MethodName) object_method_1_code (1 : Nat) (Option.none : Option Jvm.ClassFile.FieldType), Jvm.Cond.code ({ cls := "com/example/tasdik/tasdik/core/cbor/CborValue", name := "type", desc := "()Lcom/example/tasdik/tasdik/core/cbor/CborValue$Type;" } : Jvm.MethodName) prog_21_method_11_code (1 : Nat) (Option.some (Jvm.ClassFile.FieldType.object "com/example/tasdik/tasdik/core/cbor/CborValue$Type")), Jvm.Cond.code ({ cls := "com/example/tasdik/tasdik/core/cbor/CborValue", name := "bytes", desc := "()[B" } : Jvm.MethodName) prog_21_method_12_code (1 : Nat) (Option.some (Jvm.ClassFile.FieldType.array Jvm.ClassFile.FieldType.byte)), Jvm.Cond.code ({ cls := "com/example/tasdik/tasdik/core/cbor/CborValue", name := "expect", desc := "(Lcom/example/tasdik/tasdik/core/cbor/CborValue$Type;)V" } : Jvm.MethodName) prog_21_method_21_code (2 : Nat) (Option.none : Option Jvm.ClassFile.FieldType), Jvm.Cond.code ({ cls := "com/example/tasdik/tasdik/core/cbor/CborValue", name := "equals", desc := "(Ljava/lang/Object;)Z" } : Jvm.MethodName) prog_21_method_16_code (3 : Nat) (Option.some Jvm.ClassFile.FieldType.boolean), Jvm.Cond.code ({ cls := "com/example/tasdik/tasdik/core/cbor/CborValue", name := "compare", desc := "(Lcom/example/tasdik/tasdik/core/cbor/CborValue;Lcom/example/tasdik/tasdik/core/cbor/CborValue;)I" } : Jvm.MethodName) prog_21_method_18_code (3 : Nat) (Option.some Jvm.ClassFile.FieldType.int), Jvm.Cond.code ({ cls := "java/lang/Enum", name := "compareTo", desc := "(Ljava/lang/Enum;)I" } : Jvm.MethodName) jdk_37_method_8_code (4 : Nat) (Option.some Jvm.ClassFile.FieldType.int), Jvm.Cond.code ({ cls := "java/lang/Enum", name := "ordinal", desc := "()I" } : Jvm.MethodName) jdk_37_method_2_code (1 : Nat) (Option.some Jvm.ClassFile.FieldType.int), Jvm.Cond.code ({ cls := "java/util/Arrays", name := "compareUnsigned", desc := "([B[B)I" } : Jvm.MethodName) jdk_65_method_201_code (3 : Nat) (Option.some Jvm.ClassFile.FieldType.int), Jvm.Cond.code ({ cls := "java/lang/Math", name := "min", desc := "(II)I" } : Jvm.MethodName) jdk_29_method_69_code (2 : Nat) (Option.some Jvm.ClassFile.FieldType.int), Jvm.Cond.code ({ cls := "jdk/internal/util/ArraysSupport", name := "mismatch", desc := "([B[BI)I" } : Jvm.MethodName) jdk_48_method_13_code (4 : Nat) (Option.some Jvm.ClassFile.FieldType.int)]
set_option maxRecDepth 65536 in
theorem codes_eq : words1.filter isCode = codes1 := rfl
theorem w_codes : ∀ c ∈ words1.filter isCode, c.before args0 about1 = true := by
  rw [codes_eq]
  intro c hc
  simp only [codes1, List.mem_cons, List.not_mem_nil, or_false] at hc
  rcases hc with rfl | rfl | rfl | rfl | rfl | rfl | rfl | rfl | rfl | rfl | rfl | rfl | rfl | rfl | rfl | rfl | rfl
  · exact w_c0
  · exact w_c1
  · exact w_c2
  · exact w_c3
  · exact w_c4
  · exact w_c5
  · exact w_c6
  · exact w_c7
  · exact w_c8
  · exact w_c9
  · exact w_c10
  · exact w_c11
  · exact w_c12
  · exact w_c13
  · exact w_c14
  · exact w_c15
  · exact w_c16
set_option maxRecDepth 65536 in
theorem w_t1 : (words1.take 24).all (fun c => isCode c || c.before args0 about1) = true := by decide +kernel
set_option maxRecDepth 65536 in
theorem w_t2 : ((words1.drop 24).take 24).all (fun c => isCode c || c.before args0 about1) = true := by decide +kernel
set_option maxRecDepth 65536 in
theorem w_t3 : (((words1.drop 24).drop 24).take 24).all (fun c => isCode c || c.before args0 about1) = true := by decide +kernel
set_option maxRecDepth 65536 in
theorem w_t4 : ((((words1.drop 24).drop 24).drop 24).take 24).all (fun c => isCode c || c.before args0 about1) = true := by decide +kernel
set_option maxRecDepth 65536 in
theorem w_t5 : ((((words1.drop 24).drop 24).drop 24).drop 24).all (fun c => isCode c || c.before args0 about1) = true := by decide +kernel
theorem w_tables : (allAtoms (Jvm.Cond.code x code maxLocals ret :: tables_1)).before args0 about1 = true := by
  rw [allAtoms_all]
  show words1.all (fun c => c.before args0 about1) = true
  refine all_split ?_ w_codes
  rw [← List.take_append_drop 24 words1, List.all_append, w_t1, ← List.take_append_drop 24 (words1.drop 24), List.all_append, w_t2, ← List.take_append_drop 24 ((words1.drop 24).drop 24), List.all_append, w_t3, ← List.take_append_drop 24 (((words1.drop 24).drop 24).drop 24), List.all_append, w_t4, w_t5]
  rfl
set_option maxRecDepth 65536 in
theorem w_rest : rest_1_c.before args0 about1 = true := by decide +kernel
set_option maxRecDepth 65536 in
theorem w_case : (Jvm.Cond.and given_1 narrow_1).before args0 about1 = true := by decide +kernel
theorem w_applies : (headSpec (Jvm.Cond.code x code maxLocals ret :: tables_1) room_1).applies x e0.platform about1 = true :=
  (Spec.applies_iff w_frames).mpr ⟨w_running, w_runnable, w_alone, w_named, w_hears, w_ripe, w_room, w_tables⟩
theorem atStart : AtStart classFile x code maxLocals ret World_1 tables_1 room_1 Calls_1 rest_1 Pre_1 launch0 p0 e0 about1 theMethod args0 below0 :=
  ⟨lists_1, trivial, launch0.admits_env _ _ _, launch0.least_env, fairChoices_fair.cas, fairChoices_fair.clock, w_frames, w_args, w_heap, w_applies, ⟨⟨7, k7, 2, by decide +kernel, rfl, rfl, _, rfl, rfl⟩, trivial⟩, w_rest, w_case⟩
end start1
theorem witness_1 : WitnessClaimed_1 := ⟨start1.p0, start1.e0, start1.about1, start1.theMethod, start1.args0, start1.below0, start1.atStart⟩
end Jvm.Pilot.@@N@@
