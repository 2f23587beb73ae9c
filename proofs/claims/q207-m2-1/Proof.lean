import JvmDerived
import JvmDerived.Pilot.@@N@@Statement
import JvmDerived.Pilot.@@N@@Code
set_option linter.unusedVariables false
set_option linter.unusedSimpArgs false
namespace Jvm.Pilot.@@N@@
open Jvm Jvm.ClassFile Sem Op Lib Jvm.Free Jvm.Stand Jvm.LawKit Jvm.RoadKit Bundle Jvm.Pilot.@@N@@.Jvm.D
abbrev own_H (a0 : Array Value) (Z : State) : Prop := ∀ d ∈ tables_1, d.before a0 Z = true
theorem own_w {a0 : Array Value} {Z : State} (hw : ∀ d ∈ tables_1, d.before a0 Z = true) (i : Nat) {d : Jvm.Cond} (h : tables_1[i]? = some d) : d.before a0 Z = true := hw _ (List.mem_of_getElem? h)
section Own
variable {p : Program} {l : Launch} {e : Env} {R : Room} {s : State} {m : MethodId} {args : Array Value} {below : List Frame} {meth : Method} {c : Code} {T : State} {locs : List Loc} {cells slots : Nat} {Z : State} {a0 : Array Value} {h : Heap}
def own_Go (p : Program) (e : Env) (below : List Frame) (P : Outcome → State → Prop) (U : State) : Prop := ∃ s₂ o, Steps p.tables e below U s₂ ∧ s₂.status = .running ∧ Ended s₂ below o ∧ P o s₂
theorem own_st {P : Outcome → State → Prop} {U V : State} (k : ∀ t, Steps p.tables e below U t → Steps p.tables e below V t) (h : own_Go p e below P U) : own_Go p e below P V := by
  obtain ⟨a, b, c, d⟩ := h; exact ⟨a, b, k _ c, d⟩
def own_P (s : State) (Q : Option Value → Heap → List Loc → Prop) (rc rs : Nat) (o : Outcome) (U : State) : Prop := ∃ v L, o = .returned v ∧ Q v U.heap L ∧ FrameEnd s o U L rc rs
theorem own_ret (X : Stand p l e R s m args below meth c T locs cells slots) {Q : Option Value → Heap → List Loc → Prop} {rc rs : Nat} {g : JFrame} {v : Option Value} (hlk : meth.locks = false) (hv : meth.sig.returnType = none → v = none) (hq : Q v T.heap locs) (hc : cells ≤ rc) (hl : slots ≤ rs)
    (k : ∀ fs, (∀ (f : JFrame) (acts : List Action), f.method = m → f.locked = none → f.entered = [] → (doReturn e (T.setTop f) acts v).1 = T.setFrames fs) → Steps p.tables e below (T.setTop g) (T.setFrames fs)) : own_Go p e below (own_P s Q rc rs) (T.setTop g) := by
  obtain ⟨fs, hr, hrun, hended, hW, hsame⟩ := X.leave (v := v) hv hlk
  exact ⟨_, _, k fs hr, hrun, hended, _, _, rfl, hq, ⟨_, rfl⟩, hW, hsame.mono hc hl⟩
theorem own_retV (X : Stand p l e R s m args below meth c T locs cells slots) (hx : p.tables.exec = Jvm.exec) {Q : Option Value → Heap → List Loc → Prop} {rc rs pc : Nat} {Ls : Array Slot} (hlk : meth.locks = false) (hret : meth.sig.returnType = none) (hd : decode c.code pc = .ok (.return_, 1)) (hc : cells ≤ rc) (hl : slots ≤ rs) (hq : Q none T.heap locs) : own_Go p e below (own_P s Q rc rs) (T.setTop (mkF m pc Ls [])) :=
  own_ret X hlk (fun _ => rfl) hq hc hl fun _ hr => X.returnOut hx hret hd hr
theorem own_retX (X : Stand p l e R s m args below meth c T locs cells slots) (hx : p.tables.exec = Jvm.exec) {Q : Option Value → Heap → List Loc → Prop} {rc rs pc : Nat} {Ls : Array Slot} {w : Value} {t : FieldType} {i : Instr} {rest : List Value} (hlk : meth.locks = false) (hret : meth.sig.returnType = some t) (hn : narrow t w = w)
    (hi : (i = .ireturn ∧ (t = .int ∨ t = .boolean ∨ t = .byte ∨ t = .char ∨ t = .short) ∧ ∃ z, w = .int z) ∨ (i = .lreturn ∧ t = .long ∧ ∃ z, w = .long z) ∨ (i = .dreturn ∧ t = .double ∧ ∃ z, w = .double z) ∨ (i = .freturn ∧ t = .float ∧ ∃ z, w = .float z) ∨ (i = .areturn ∧ t.isReference = true ∧ w.isRef = true))
    (hd : decode c.code pc = .ok (i, 1)) (hc : cells ≤ rc) (hl : slots ≤ rs) (hq : Q (some w) T.heap locs) : own_Go p e below (own_P s Q rc rs) (T.setTop (mkF m pc Ls (w :: rest))) :=
  own_ret X hlk (fun q => by rw [hret] at q; cases q) hq hc hl fun _ hr => retOut X hx hret hn hi hd hr
theorem own_body {y : MethodName} {bytes : ByteArray} {maxL : Nat} {ret : Option FieldType} {rm : Room} {ws : List Cond} {as' : Array Value} {Q : Option Value → Heap → List Loc → Prop} (hn : plainFor y = true)
    (b : ∀ (p : Program) (e : Env) (s : State) (m : MethodId) (below : List Frame) (meth : Method) (c : Code) (s₁ : State), p.tables.exec = Jvm.exec → c.code = bytes → c.maxLocals = maxL → s.vm.findClass y.cls = some m.cls → meth.name = y.name → meth.sig.returnType = ret → meth.locks = false → Z.Warmed39 s.vm → s₁.heap = h → Stand p l e rm s m as' below meth c s₁ [] 0 0 →
      own_Go p e below (own_P s Q rm.cells rm.slots) (s₁.setTop (entryFrame m as' maxL))) :
    MetFree l y (head1 (Cond.code y bytes maxL ret :: ws) rm) (fun a U => a = as' ∧ Z.Warmed39 U.vm ∧ U.heap = h) (fun _ _ _ _ _ => True) (fun _ U o U' => ∃ v L, o = .returned v ∧ Q v U'.heap L ∧ FrameEnd U o U' L rm.cells rm.slots) := by
  refine MetFree.of_bodySF hn hisR ?_
  intro p e s m args below meth c s₁ Bd hml0 hP hK
  obtain ⟨rfl, hZ, hh⟩ := hP
  exact b p e s m below meth c s₁ Bd.exec Bd.bytes hml0 (findClass_of_methodNamed Bd.named) (name_of_methodNamed Bd.named Bd.method).1 Bd.returns Bd.notSynchronized hZ (by rw [← hh, Bd.state]; rfl) (Stand.of_body Bd)
abbrev own_Met (l : Launch) (y : MethodName) (bytes : ByteArray) (maxL : Nat) (ret : Option FieldType) (ws : List Cond) (rm : Room) (Z : State) (h : Heap) (as' : Array Value) (Q : Option Value → Heap → List Loc → Prop) : Prop :=
  MetFree l y (head1 (Cond.code y bytes maxL ret :: ws) rm) (fun a U => a = as' ∧ Z.Warmed39 U.vm ∧ U.heap = h) (fun _ _ _ _ _ => True) (fun _ U o U' => ∃ v L, o = .returned v ∧ Q v U'.heap L ∧ FrameEnd U o U' L rm.cells rm.slots)
abbrev own_Came (p : Program) (l : Launch) (e : Env) (R : Room) (s : State) (m : MethodId) (args : Array Value) (below : List Frame) (meth : Method) (c : Code) (T : State) (locs : List Loc) (cells slots : Nat) (g : JFrame) (len : Nat) (rest : List Value) (Q : Option Value → Heap → List Loc → Prop) : Prop :=
  ∃ (T' : State) (v : Option Value) (L : List Loc), Stand p l e R s m args below meth c T' (locs ++ L) cells slots ∧ Q v T'.heap L ∧ ∀ t, Steps p.tables e below (T'.setTop { g with pc := g.pc + len, stack := v.toList ++ rest }) t → Steps p.tables e below (T.setTop g) t
theorem own_callS (X : Stand p l e R s m args below meth c T locs cells slots) (hx : p.tables.exec = Jvm.exec) (hZ : Z.Warmed39 s.vm) {own : String} {index : Nat} {y : MethodName} {bytes : ByteArray} {maxL : Nat} {ret : Option FieldType} {rm : Room} {as' : Array Value} {Q : Option Value → Heap → List Loc → Prop}
    (hown : s.vm.findClass own = some m.cls) (w1 : (Cond.methodLink own index y).before a0 Z = true) (w2 : (Cond.static y).before a0 Z = true) (w3 : (Cond.initialized y.cls).before a0 Z = true) (w4 : (Cond.code y bytes maxL ret).before a0 Z = true)
    (hy : y.cls ≠ "java/lang/invoke/MethodHandle" ∧ y.cls ≠ "java/lang/invoke/VarHandle") (hM : own_Met l y bytes maxL ret [] rm Z h as' Q) (eT : T.heap = h) {ps : List FieldType} {r : Option FieldType} (hd : parseMethodDescriptor y.desc = some ⟨ps, r⟩) {argsL rest : List Value} (hl : argsL.length = ps.length) (ha : argsL.toArray = as')
    {g : JFrame} (hg : g.method = m) (hsize : g.locals.size = c.maxLocals) (hstack : g.stack = argsL.reverse ++ rest) (hdg : decode c.code g.pc = .ok (.invokestatic index, 3)) {W : Nat} (hW : 2 * g.monitorRoom + (rest.map fun v => v.category).sum = W) (h1 : rm.frames + 1 ≤ R.frames) (h2 : W + (maxL + 11) + rm.locals ≤ R.locals) (h3 : cells + rm.cells ≤ R.cells) (h4 : slots + rm.slots ≤ R.slots) :
    own_Came p l e R s m args below meth c T locs (cells + rm.cells) (slots + rm.slots) g 3 rest Q := by
  obtain ⟨v, _, ⟨T', L', k', n'⟩, -, X', ⟨Lc, hQ, l1, y1, z1⟩, st⟩ := Jvm.LawKit.callS X hx (y := y) hown (mvT hZ w1) (mvT hZ w2) (mvT hZ w3) (mvT hZ w4) hy (backOf (W := W) hM hZ w4 w3 h1 h2) (g := g) hg hsize (argsL := argsL) (rest := rest) (lenOf hd hl) hstack (Nat.le_of_eq hW) hdg (fun _ _ => ⟨ha, eT, h3, h4⟩)
  dsimp only [Pt.U, Pt.locs, Pt.cells, Pt.slots] at X' l1 y1 z1 st hQ
  subst l1 y1 z1
  exact ⟨T', v, Lc, X', hQ, st⟩
theorem own_callN (X : Stand p l e R s m args below meth c T locs cells slots) (hx : p.tables.exec = Jvm.exec) (hZ : Z.Warmed39 s.vm) {own : String} {index : Nat} {y : MethodName} {bytes : ByteArray} {maxL : Nat} {rm : Room} {as' : Array Value} {Q : Option Value → Heap → List Loc → Prop} (hy1 : y.name = "<init>")
    (hown : s.vm.findClass own = some m.cls) (w1 : (Cond.methodLink own index y).before a0 Z = true) (w2 : (Cond.instanceMethod y).before a0 Z = true) (w3 : (Cond.initialized y.cls).before a0 Z = true) (w4 : (Cond.code y bytes maxL none).before a0 Z = true)
    (hy : y.cls ≠ "java/lang/invoke/MethodHandle" ∧ y.cls ≠ "java/lang/invoke/VarHandle") (hM : own_Met l y bytes maxL none [] rm Z h as' Q) (eT : T.heap = h) {ps : List FieldType} {r : Option FieldType} (hd : parseMethodDescriptor y.desc = some ⟨ps, r⟩) {a : Addr} {argsL rest : List Value} (hl : argsL.length = ps.length) (ha : (.ref a :: argsL).toArray = as')
    {g : JFrame} (hg : g.method = m) (hsize : g.locals.size = c.maxLocals) (hstack : g.stack = argsL.reverse ++ .ref a :: rest) (hdg : decode c.code g.pc = .ok (.invokespecial index, 3)) {W : Nat} (hW : 2 * g.monitorRoom + (rest.map fun v => v.category).sum = W) (h1 : rm.frames + 1 ≤ R.frames) (h2 : W + (maxL + 11) + rm.locals ≤ R.locals) (h3 : cells + rm.cells ≤ R.cells) (h4 : slots + rm.slots ≤ R.slots) :
    own_Came p l e R s m args below meth c T locs (cells + rm.cells) (slots + rm.slots) g 3 rest Q := by
  obtain ⟨v, _, ⟨T', L', k', n'⟩, -, X', ⟨Lc, hQ, l1, y1, z1⟩, st⟩ := X.specialBack hx (y := y) hy1 hown (mvT hZ w1) (mvT hZ w2) (mvT hZ w4) hy (backOf (W := W) hM hZ w4 w3 h1 h2) (g := g) hg hsize (Steps.refl _) (a := a) (argsL := argsL) (rest := rest) (lenOf hd hl) hstack (Nat.le_of_eq hW) hdg (fun _ _ => ⟨ha, eT, h3, h4⟩)
  dsimp only [Pt.U, Pt.locs, Pt.cells, Pt.slots] at X' l1 y1 z1 st hQ
  subst l1 y1 z1
  exact ⟨T', v, Lc, X', hQ, fun _ k => st.trans k⟩
theorem own_callV (X : Stand p l e R s m args below meth c T locs cells slots) (hx : p.tables.exec = Jvm.exec) (hZ : Z.Warmed39 s.vm) {own C : String} {index : Nat} {y z : MethodName} {bytes : ByteArray} {maxL : Nat} {ret : Option FieldType} {rm : Room} {as' : Array Value} {Q : Option Value → Heap → List Loc → Prop}
    (hown : s.vm.findClass own = some m.cls) (w1 : (Cond.methodLink own index y).before a0 Z = true) (w2 : (Cond.declares y).before a0 Z = true) (hnf : NotFace s y) (w5 : (Cond.selects C y z).before a0 Z = true) (w6 : (Cond.instanceMethod z).before a0 Z = true) (w3 : (Cond.initialized z.cls).before a0 Z = true) (w4 : (Cond.code z bytes maxL ret).before a0 Z = true)
    (hy : y.cls ≠ "java/lang/invoke/MethodHandle" ∧ y.cls ≠ "java/lang/invoke/VarHandle") (hM : own_Met l z bytes maxL ret [] rm Z h as' Q) (eT : T.heap = h) {a : Addr} (E : Exa Z h a C) {ps : List FieldType} {r : Option FieldType} (hd : parseMethodDescriptor y.desc = some ⟨ps, r⟩) {argsL rest : List Value} (hl : argsL.length = ps.length) (ha : (.ref a :: argsL).toArray = as')
    {g : JFrame} (hg : g.method = m) (hsize : g.locals.size = c.maxLocals) (hstack : g.stack = argsL.reverse ++ .ref a :: rest) (hdg : decode c.code g.pc = .ok (.invokevirtual index, 3)) {W : Nat} (hW : 2 * g.monitorRoom + (rest.map fun v => v.category).sum = W) (h1 : rm.frames + 1 ≤ R.frames) (h2 : W + (maxL + 11) + rm.locals ≤ R.locals) (h3 : cells + rm.cells ≤ R.cells) (h4 : slots + rm.slots ≤ R.slots) :
    own_Came p l e R s m args below meth c T locs (cells + rm.cells) (slots + rm.slots) g 3 rest Q := by
  obtain ⟨cq, kq, qa, qb, qc⟩ := isOf hZ eT E
  obtain ⟨v, _, ⟨T', L', k', n'⟩, -, X', ⟨Lc, hQ, l1, y1, z1⟩, st⟩ := X.virtualBack hx (y := y) (z := z) hown (mvT hZ w1) (mvT hZ w2) hnf (mvT hZ w5) (mvT hZ w6) hy (backOf (W := W) hM hZ w4 w3 h1 h2) qa qc (g := g) hg hsize (Steps.refl _) (argsL := argsL) (rest := rest) (lenOf hd hl) hstack (Nat.le_of_eq hW) hdg (fun _ _ => ⟨ha, eT, h3, h4⟩)
  dsimp only [Pt.U, Pt.locs, Pt.cells, Pt.slots] at X' l1 y1 z1 st hQ
  subst l1 y1 z1
  exact ⟨T', v, Lc, X', hQ, fun _ k => st.trans k⟩
theorem own_callU (X : Stand p l e R s m args below meth c T locs cells slots) (hx : p.tables.exec = Jvm.exec) (hZ : Z.Warmed39 s.vm) {own C owner : String} {index : Nat} {y z : MethodName} {bytes : ByteArray} {maxL : Nat} {ret : Option FieldType} {rm : Room} {as' : Array Value} {Q : Option Value → Heap → List Loc → Prop}
    (hown : s.vm.findClass own = some m.cls) (w1 : (Cond.methodLink own index y).before a0 Z = true) (w7 : (Cond.sameMethod y.cls owner y.name y.desc).before a0 Z = true) (w2 : (Cond.declares ⟨owner, y.name, y.desc⟩).before a0 Z = true) (w5 : (Cond.selects C y z).before a0 Z = true) (w6 : (Cond.instanceMethod z).before a0 Z = true) (w3 : (Cond.initialized z.cls).before a0 Z = true) (w4 : (Cond.code z bytes maxL ret).before a0 Z = true)
    (hy : owner ≠ "java/lang/invoke/MethodHandle" ∧ owner ≠ "java/lang/invoke/VarHandle") (hM : own_Met l z bytes maxL ret [] rm Z h as' Q) (eT : T.heap = h) {a : Addr} (E : Exa Z h a C) {ps : List FieldType} {r : Option FieldType} (hd : parseMethodDescriptor y.desc = some ⟨ps, r⟩) {argsL rest : List Value} (hl : argsL.length = ps.length) (ha : (.ref a :: argsL).toArray = as')
    {g : JFrame} (hg : g.method = m) (hsize : g.locals.size = c.maxLocals) (hstack : g.stack = argsL.reverse ++ .ref a :: rest) (hdg : decode c.code g.pc = .ok (.invokevirtual index, 3)) {W : Nat} (hW : 2 * g.monitorRoom + (rest.map fun v => v.category).sum = W) (h1 : rm.frames + 1 ≤ R.frames) (h2 : W + (maxL + 11) + rm.locals ≤ R.locals) (h3 : cells + rm.cells ≤ R.cells) (h4 : slots + rm.slots ≤ R.slots) :
    own_Came p l e R s m args below meth c T locs (cells + rm.cells) (slots + rm.slots) g 3 rest Q := by
  obtain ⟨cq, kq, qa, qb, qc⟩ := isOf hZ eT E
  obtain ⟨v, _, ⟨T', L', k', n'⟩, -, X', ⟨Lc, hQ, l1, y1, z1⟩, st⟩ := X.virtualBackUp hx (x := y) (y := z) hown (mvT hZ w1) (mvT hZ w7) (mvT hZ w2) hy (mvT hZ w5) (mvT hZ w6) (backOf (W := W) hM hZ w4 w3 h1 h2) qa qc (g := g) hg hsize (Steps.refl _) (argsL := argsL) (rest := rest) (lenOf hd hl) hstack (Nat.le_of_eq hW) hdg (fun _ _ => ⟨ha, eT, h3, h4⟩)
  dsimp only [Pt.U, Pt.locs, Pt.cells, Pt.slots] at X' l1 y1 z1 st hQ
  subst l1 y1 z1
  exact ⟨T', v, Lc, X', hQ, fun _ k => st.trans k⟩
theorem own_callI (X : Stand p l e R s m args below meth c T locs cells slots) (hx : p.tables.exec = Jvm.exec) (hZ : Z.Warmed39 s.vm) {own C : String} {index count : Nat} {y z : MethodName} {bytes : ByteArray} {maxL : Nat} {ret : Option FieldType} {rm : Room} {as' : Array Value} {Q : Option Value → Heap → List Loc → Prop}
    (hown : s.vm.findClass own = some m.cls) (w1 : (Cond.methodLink own index y).before a0 Z = true) (w2 : (Cond.declares y).before a0 Z = true) (w7 : (Cond.interfaceMethod y.cls y.cls y.name y.desc).before args s = true) (w5 : (Cond.selects C y z).before a0 Z = true) (w6 : (Cond.instanceMethod z).before a0 Z = true) (w8 : (Cond.publicMethod z).before a0 Z = true) (w9 : (Cond.unhidden C y.name y.desc).before a0 Z = true) (w10 : (Cond.castable C y.cls).before a0 Z = true) (w3 : (Cond.initialized z.cls).before a0 Z = true) (w4 : (Cond.code z bytes maxL ret).before a0 Z = true)
    (hy : y.cls ≠ "java/lang/invoke/MethodHandle" ∧ y.cls ≠ "java/lang/invoke/VarHandle") (hM : own_Met l z bytes maxL ret [] rm Z h as' Q) (eT : T.heap = h) {a : Addr} (E : Exa Z h a C) {ps : List FieldType} {r : Option FieldType} (hd : parseMethodDescriptor y.desc = some ⟨ps, r⟩) {argsL rest : List Value} (hl : argsL.length = ps.length) (ha : (.ref a :: argsL).toArray = as')
    {g : JFrame} (hg : g.method = m) (hsize : g.locals.size = c.maxLocals) (hstack : g.stack = argsL.reverse ++ .ref a :: rest) (hdg : decode c.code g.pc = .ok (.invokeinterface index count, 5)) {W : Nat} (hW : 2 * g.monitorRoom + (rest.map fun v => v.category).sum = W) (h1 : rm.frames + 1 ≤ R.frames) (h2 : W + (maxL + 11) + rm.locals ≤ R.locals) (h3 : cells + rm.cells ≤ R.cells) (h4 : slots + rm.slots ≤ R.slots) :
    own_Came p l e R s m args below meth c T locs (cells + rm.cells) (slots + rm.slots) g 5 rest Q := by
  obtain ⟨cq, kq, qa, qb, qc⟩ := isOf hZ eT E
  obtain ⟨v, _, ⟨T', L', k', n'⟩, -, X', ⟨Lc, hQ, l1, y1, z1⟩, st⟩ := X.interfaceBack hx (xi := y) (y := z) hown (mvT hZ w1) (mvT hZ w2) w7 (mvT hZ w5) (mvT hZ w6) (mvT hZ w8) (mvT hZ w9) (mvT hZ w10) hy (backOf (W := W) hM hZ w4 w3 h1 h2) qa qb qc (g := g) hg hsize (Steps.refl _) (argsL := argsL) (rest := rest) (lenOf hd hl) hstack (Nat.le_of_eq hW) hdg (fun _ _ => ⟨ha, eT, h3, h4⟩)
  dsimp only [Pt.U, Pt.locs, Pt.cells, Pt.slots] at X' l1 y1 z1 st hQ
  subst l1 y1 z1
  exact ⟨T', v, Lc, X', hQ, fun _ k => st.trans k⟩
theorem own_selP (hZ : Z.Warmed39 s.vm) {y : MethodName} {n : Nat} (w1 : (Cond.instantiable y.cls n).before a0 Z = true) (w2 : (Cond.privateMethod y).before a0 Z = true) (w3 : (Cond.instanceMethod y).before a0 Z = true) (hy : y.cls ≠ "java/lang/invoke/MethodHandle" ∧ y.cls ≠ "java/lang/invoke/VarHandle") : (Cond.selects y.cls y y).before args s = true := by
  obtain ⟨c, k, h1, h2, -, h3, -⟩ := Cond.instantiable_spec (mvT hZ w1 (args := args))
  exact Jvm.Stand.selects_self_of_private h1 h2 (by simp at h3; exact h3.1) (Cond.privateMethod_at (mvP hZ w2 (args := args))) (mvT hZ w3) hy
theorem own_callP (X : Stand p l e R s m args below meth c T locs cells slots) (hx : p.tables.exec = Jvm.exec) (hZ : Z.Warmed39 s.vm) {own : String} {index : Nat} {y : MethodName} {bytes : ByteArray} {maxL : Nat} {ret : Option FieldType} {rm : Room} {as' : Array Value} {Q : Option Value → Heap → List Loc → Prop}
    (hown : s.vm.findClass own = some m.cls) (w1 : (Cond.methodLink own index y).before a0 Z = true) (w6 : (Cond.instanceMethod y).before a0 Z = true) (w5 : (Cond.selects y.cls y y).before args s = true) (w7 : (Cond.privateMethod y).before a0 Z = true) (w3 : (Cond.initialized y.cls).before a0 Z = true) (w4 : (Cond.code y bytes maxL ret).before a0 Z = true)
    (hy : y.cls ≠ "java/lang/invoke/MethodHandle" ∧ y.cls ≠ "java/lang/invoke/VarHandle") (hM : own_Met l y bytes maxL ret [] rm Z h as' Q) (eT : T.heap = h) {a : Addr} {C : String} (E : Exa Z h a C) {ps : List FieldType} {r : Option FieldType} (hd : parseMethodDescriptor y.desc = some ⟨ps, r⟩) {argsL rest : List Value} (hl : argsL.length = ps.length) (ha : (.ref a :: argsL).toArray = as')
    {g : JFrame} (hg : g.method = m) (hsize : g.locals.size = c.maxLocals) (hstack : g.stack = argsL.reverse ++ .ref a :: rest) (hdg : decode c.code g.pc = .ok (.invokevirtual index, 3)) {W : Nat} (hW : 2 * g.monitorRoom + (rest.map fun v => v.category).sum = W) (h1 : rm.frames + 1 ≤ R.frames) (h2 : W + (maxL + 11) + rm.locals ≤ R.locals) (h3 : cells + rm.cells ≤ R.cells) (h4 : slots + rm.slots ≤ R.slots) :
    own_Came p l e R s m args below meth c T locs (cells + rm.cells) (slots + rm.slots) g 3 rest Q := by
  obtain ⟨cq, q, q'⟩ := E.cell
  obtain ⟨v, _, ⟨T', L', k', n'⟩, -, X', ⟨Lc, hQ, l1, y1, z1⟩, st⟩ := X.privateBack hx (y := y) hown (mvT hZ w1) (mvT hZ w6) w5 (Cond.privateMethod_at (mvP hZ w7 (args := #[]))) (mvT hZ w4) hy (backOf (W := W) hM hZ w4 w3 h1 h2) (g := g) hg hsize (Steps.refl _) (a := a) (by rw [eT]; exact q) q' (argsL := argsL) (rest := rest) (lenOf hd hl) hstack (Nat.le_of_eq hW) hdg (fun _ _ => ⟨ha, eT, h3, h4⟩)
  dsimp only [Pt.U, Pt.locs, Pt.cells, Pt.slots] at X' l1 y1 z1 st hQ
  subst l1 y1 z1
  exact ⟨T', v, Lc, X', hQ, fun _ k => st.trans k⟩
theorem own_nl {n0 : Nat} {Z : State} (O : Old Z n0 h) : n0 ≤ h.size := O.1 ▸ O.2.1
theorem own_tt {x : Bool} (h : x = true) : x = true := h
end Own
section Own2
variable {args : Array Value} {Z : State} {a : Addr} {O f d : String} {k : Int32} {t : Term} {v : Value} {ty : FieldType}
theorem own_fldI (ht : t.eval args Z none [] Z = some (.ref a)) (h : (Cond.eq (.field t O f d) (.int k)).value args Z none Z [] = some true) : Fld Z Z.heap a O f d (.int k) := by
  obtain ⟨x, y, ea, eb, -, k2⟩ := cmp_v (Or.inl h)
  obtain rfl : y = .int k := (Option.some.inj (eb.symm.trans (Term.int_eval k)))
  obtain ⟨z, rfl⟩ := k2
  obtain rfl : z = k := by simpa [Cond.value, ea, eb] using h
  rw [fld_at ht] at ea
  exact Fld.start ea
theorem own_len {c : Cell} (ht : t.eval args Z none [] Z = some (.ref a)) (A : Arr Z Z.heap a c ty) (h : (Cond.eq (.length t) (.int k)).value args Z none Z [] = some true) : c.slots.size < 2 ^ 31 ∧ c.slots.size.toInt32 = k := by
  obtain ⟨x, y, ea, eb, -, k2⟩ := cmp_v (Or.inl h)
  obtain rfl : y = .int k := (Option.some.inj (eb.symm.trans (Term.int_eval k)))
  obtain ⟨z, rfl⟩ := k2
  obtain rfl : z = k := by simpa [Cond.value, ea, eb] using h
  have hc := Arr.fin (State.Warmed39.refl Z).alike A
  simp only [Term.eval, ht, Option.bind_eq_bind, Option.bind_some, hc] at ea
  split at ea
  · rename_i hl
    exact ⟨by simpa using hl, by simpa using ea⟩
  · cases ea
theorem own_lenN {n : Nat} {k : Int32} (h : n < 2 ^ 31) (e : n.toInt32 = k) : n = k.toNatClampNeg := by
  subst e
  have := len_toInt h
  simp [Int32.toNatClampNeg, this]
theorem own_elem {c : Cell} {i : Int32} (ht : t.eval args Z none [] Z = some (.ref a)) (A : Arr Z Z.heap a c ty) (h : (Cond.eq (.elem t (.int i)) (.int k)).value args Z none Z [] = some true) : c.slots[i.toNatClampNeg]? = some (.int k) := by
  obtain ⟨x, y, ea, eb, -, k2⟩ := cmp_v (Or.inl h)
  obtain rfl : y = .int k := (Option.some.inj (eb.symm.trans (Term.int_eval k)))
  obtain ⟨z, rfl⟩ := k2
  obtain rfl : z = k := by simpa [Cond.value, ea, eb] using h
  exact (elem_in ea ht (Term.int_eval i) A.1).2
theorem own_bb (x : Int32) : nar .byte x.toInt8.toInt32 = x.toInt8.toInt32 := by simp [nar]
theorem own_narG (h : v.isRef = true) : narrow ty v = v := by cases v <;> first | rfl | (cases ty <;> rfl) | simp [Value.isRef] at h
theorem own_fitG (h : v.isRef = true) (ht : ty.isReference = true := by rfl) : fits ty v = true := by cases v <;> cases ty <;> simp_all [Value.isRef, fits, FieldType.isReference]
end Own2
section OwnM
variable {p : Program} {l : Launch} {e : Env} {R : Room} {s : State} {m : MethodId} {args : Array Value} {below : List Frame} {meth : Method} {c : Code} {T : State} {locs : List Loc} {cells slots : Nat} {Z : State} {a0 : Array Value} {h : Heap} {a : Addr}
theorem own_rne {a b : Addr} (h : a ≠ b) : ¬ (Value.ref a = Value.ref b) := fun q => h (by cases q; rfl)
theorem own_gcls (X : Stand p l e R s m args below meth c T locs cells slots) (hx : p.tables.exec = Jvm.exec) (hZ : Z.Warmed39 s.vm) {own C : String} {index : Nat} (hown : s.vm.findClass own = some m.cls)
    (w1 : (Cond.methodLink own index ⟨"java/lang/Object", "getClass", "()Ljava/lang/Class;"⟩).before a0 Z = true) (w2 : (Cond.declares ⟨"java/lang/Object", "getClass", "()Ljava/lang/Class;"⟩).before a0 Z = true) (w4 : (Cond.selects C ⟨"java/lang/Object", "getClass", "()Ljava/lang/Class;"⟩ ⟨"java/lang/Object", "getClass", "()Ljava/lang/Class;"⟩).before a0 Z = true)
    (w5 : (Cond.instanceMethod ⟨"java/lang/Object", "getClass", "()Ljava/lang/Class;"⟩).before a0 Z = true) (w6 : (Cond.native ⟨"java/lang/Object", "getClass", "()Ljava/lang/Class;"⟩).before a0 Z = true) (eT : T.heap = h) (E : Exa Z h a C) {mr : Addr} (M : Mir Z C mr)
    {g : JFrame} (hg : g.method = m) (hsize : g.locals.size = c.maxLocals) {rest : List Value} (hs : g.stack = .ref a :: rest) (hd : decode c.code g.pc = .ok (.invokevirtual index, 3)) (hf : 1 ≤ R.frames) {W : Nat} (hW : 2 * g.monitorRoom + (rest.map fun v => v.category).sum ≤ W) (hl : W + (nativeFrameWords "java/lang/Object" "getClass" 1 + 11) ≤ R.locals) :
    ∃ T', Stand p l e R s m args below meth c T' locs cells slots ∧ T'.heap = h ∧ ∀ target, Steps p.tables e below (T'.setTop { g with pc := g.pc + 3, stack := .ref mr :: rest }) target → Steps p.tables e below (T.setTop g) target := by
  obtain ⟨cB, kB, i1, i2, i3⟩ := isOf hZ eT E
  obtain ⟨cc, kc, m1, m2, m3, -⟩ := M
  rw [hZ.alike.findClass] at i1
  cases i1.symm.trans m1
  obtain ⟨k', q, ek⟩ := hZ.alike.2.2 _ _ m2
  obtain ⟨vm', X', st⟩ := X.getClassOf hx hown (mvT hZ w1) (mvT hZ w2) (notFace_of_selects (args := #[]) (mvT hZ w4)) (mvT hZ w4) (mvT hZ w5) (mvT hZ w6) (by rw [hZ.alike.findClass]; exact m1) i3 q (by rw [ek]; exact m3) hg hsize hs hd hf (by omega)
  exact ⟨_, X', eT, st⟩
theorem own_ifr {r o n d : String} (hZ : Z.Warmed39 s.vm) (w : (Cond.interfaceMethod r o n d).before a0 Z = true) : (Cond.interfaceMethod r o n d).before args s = true := Jvm.Free.ULB.iface_rides hZ.alike w
theorem own_gclsI (X : Stand p l e R s m args below meth c T locs cells slots) (hx : p.tables.exec = Jvm.exec) (hZ : Z.Warmed39 s.vm) {own C : String} {index count : Nat} {xi : MethodName} (hown : s.vm.findClass own = some m.cls)
    (w1 : (Cond.methodLink own index xi).before a0 Z = true) (w2 : (Cond.declares ⟨"java/lang/Object", "getClass", "()Ljava/lang/Class;"⟩).before a0 Z = true) (w3 : (Cond.interfaceMethod xi.cls "java/lang/Object" xi.name xi.desc).before args s = true) (w4 : (Cond.selects C xi ⟨"java/lang/Object", "getClass", "()Ljava/lang/Class;"⟩).before a0 Z = true)
    (w5 : (Cond.instanceMethod ⟨"java/lang/Object", "getClass", "()Ljava/lang/Class;"⟩).before a0 Z = true) (w7 : (Cond.publicMethod ⟨"java/lang/Object", "getClass", "()Ljava/lang/Class;"⟩).before a0 Z = true) (w8 : (Cond.unhidden C xi.name xi.desc).before a0 Z = true) (w9 : (Cond.castable C xi.cls).before a0 Z = true) (w6 : (Cond.native ⟨"java/lang/Object", "getClass", "()Ljava/lang/Class;"⟩).before a0 Z = true)
    (hy : xi.cls ≠ "java/lang/invoke/MethodHandle" ∧ xi.cls ≠ "java/lang/invoke/VarHandle") (hxo : xi.cls ≠ "java/lang/Object") (hname : xi.name = "getClass") (hdesc : xi.desc = "()Ljava/lang/Class;") (eT : T.heap = h) (E : Exa Z h a C) {mr : Addr} (M : Mir Z C mr)
    {g : JFrame} (hg : g.method = m) (hsize : g.locals.size = c.maxLocals) {rest : List Value} (hs : g.stack = .ref a :: rest) (hd : decode c.code g.pc = .ok (.invokeinterface index count, 5)) (hf : 1 ≤ R.frames) {W : Nat} (hW : 2 * g.monitorRoom + (rest.map fun v => v.category).sum ≤ W) (hl : W + (nativeFrameWords "java/lang/Object" "getClass" 1 + 11) ≤ R.locals) :
    ∃ T', Stand p l e R s m args below meth c T' locs cells slots ∧ T'.heap = h ∧ ∀ target, Steps p.tables e below (T'.setTop { g with pc := g.pc + 5, stack := .ref mr :: rest }) target → Steps p.tables e below (T.setTop g) target := by
  obtain ⟨cB, kB, i1, i2, i3⟩ := isOf hZ eT E
  obtain ⟨cc, kc, m1, m2, m3, -⟩ := M
  have i1' := i1
  rw [hZ.alike.findClass] at i1'
  cases i1'.symm.trans m1
  obtain ⟨k', q, ek⟩ := hZ.alike.2.2 _ _ m2
  cases i2.symm.trans q
  obtain ⟨vm', X', st⟩ := X.getClassOfI hx hown (mvT hZ w1) (mvT hZ w2) w3 (mvT hZ w4) (mvT hZ w5) (mvT hZ w7) (mvT hZ w8) (mvT hZ w9) (mvT hZ w6) hy hxo hname hdesc i1 i2 i3 (by rw [ek]; exact m3) hg hsize hs hd hf (by omega)
  exact ⟨_, X', eT, st⟩
theorem own_ldcM (X : Stand p l e R s m args below meth c T locs cells slots) (hx : p.tables.exec = Jvm.exec) (hZ : Z.Warmed39 s.vm) {own C : String} {index : Nat} (hown : s.vm.findClass own = some m.cls) (w : (Cond.classLink own index C).before a0 Z = true) (eT : T.heap = h) {mr : Addr} (M : Mir Z C mr)
    {g : JFrame} (hg : g.method = m) (hd : decode c.code g.pc = .ok (.ldc index, 2)) :
    ∃ T', Stand p l e R s m args below meth c T' locs cells slots ∧ T'.heap = h ∧ ∀ target, Steps p.tables e below (T'.setTop { g with pc := g.pc + 2, stack := .ref mr :: g.stack }) target → Steps p.tables e below (T.setTop g) target := by
  obtain ⟨cc, kc, m1, m2, m3, -⟩ := M
  obtain ⟨k', q, ek⟩ := hZ.alike.2.2 _ _ m2
  have m1' : s.vm.findClass C = some cc := by rw [hZ.alike.findClass]; exact m1
  have m3' : k'.mirror = some mr := by rw [ek]; exact m3
  obtain ⟨vm', X', st⟩ := X.ldcMirror hx hown (mvT hZ w) (a := mr) (by simp [Term.eval, m1', q, m3']) hg hd
  exact ⟨_, X', eT, st⟩
end OwnM
def own_or (v w : Value) : Value := match v with
  | .null => w
  | v => v
theorem own_orR {v w : Value} (hv : v.isRef = true) (hw : w.isRef = true) : (own_or v w).isRef = true := by rcases ref_cases hv with rfl | ⟨a, rfl⟩ <;> first | exact hw | rfl
def own_AW (Z : State) (v : Value) : Prop := v = .null ∨ ∃ w, v = .ref w ∧ Exa Z Z.heap w "com/example/temanggung/temanggung/beans/factory/Autowire"
theorem own_AWor {Z : State} {v w : Value} (h1 : own_AW Z v) (h2 : own_AW Z w) : own_AW Z (own_or v w) := by
  rcases h1 with rfl | ⟨a, rfl, E⟩
  · exact h2
  · exact Or.inr ⟨a, rfl, E⟩
theorem own_c255 (x : Int32) : ¬ (255 : Int32) < (x &&& (255 : Int32)).toUInt32.toUInt16.toUInt32.toInt32 := by
  rw [i2c_mask, Int32.lt_iff_toInt_lt]
  have h1 := c_and x 255 (by decide)
  omega
theorem own_stne {t : Term} {k j : Int32} {args : Array Value} {Z : State} (ht : t.eval args Z none [] Z = some (.int j)) (h : (Cond.not (Cond.eq t (.int k))).value args Z none Z [] = some true) : ¬ j = k := by
  have h2 := not_v h
  simpa [Cond.value, ht, Term.int_eval] using h2
theorem own_fldR {args : Array Value} {Z : State} {a b : Addr} {O f d : String} {t : Term} (ht : t.eval args Z none [] Z = some (.ref a)) (h : (Term.field t O f d).eval args Z none [] Z = some (.ref b)) : Fld Z Z.heap a O f d (.ref b) := by
  rw [fld_at ht] at h
  exact Fld.start h
abbrev own_c_0 : String := "com/example/temanggung/temanggung/beans/factory/Autowire"
abbrev own_c_1 : String := "java/util/ImmutableCollections$ListN"
def own_S (Z : State) (w0 w1 w2 w3 wl wle wd mAL mUL mUR mOA : Addr) (wcs : Int32) (kle kd : ClassId) : Prop := Sta Z Z.heap "com/example/temanggung/temanggung/beans/factory/Autowire" "NO" "Lcom/example/temanggung/temanggung/beans/factory/Autowire;" (.ref w0) ∧ Exa Z Z.heap w0 own_c_0 ∧ Sta Z Z.heap "com/example/temanggung/temanggung/beans/factory/Autowire" "BY_TYPE" "Lcom/example/temanggung/temanggung/beans/factory/Autowire;" (.ref w1) ∧ Exa Z Z.heap w1 own_c_0 ∧ Sta Z Z.heap "com/example/temanggung/temanggung/beans/factory/Autowire" "BY_NAME" "Lcom/example/temanggung/temanggung/beans/factory/Autowire;" (.ref w2) ∧ Exa Z Z.heap w2 own_c_0 ∧ Sta Z Z.heap "com/example/temanggung/temanggung/beans/factory/Autowire" "CONSTRUCTOR" "Lcom/example/temanggung/temanggung/beans/factory/Autowire;" (.ref w3) ∧ Exa Z Z.heap w3 own_c_0 ∧ Sta Z Z.heap "java/lang/String" "COMPACT_STRINGS" "Z" (.int wcs) ∧ ¬ wcs = (0 : Int32) ∧ Sta Z Z.heap "java/util/ImmutableCollections" "EMPTY_LIST" "Ljava/util/ImmutableCollections$ListN;" (.ref wl) ∧ Exa Z Z.heap wl own_c_1 ∧ Fld Z Z.heap wl own_c_1 "elements" "[Ljava/lang/Object;" (.ref wle) ∧ Arv Z Z.heap wle kle (.object "java/lang/Object") (0 : Int32) [] .null ∧ Sta Z Z.heap "java/util/ArrayList" "DEFAULTCAPACITY_EMPTY_ELEMENTDATA" "[Ljava/lang/Object;" (.ref wd) ∧ Exa Z Z.heap wd "[Ljava/lang/Object;" ∧ Arv Z Z.heap wd kd (.object "java/lang/Object") (0 : Int32) [] .null ∧ Mir Z "java/util/ArrayList" mAL ∧ Mir Z "java/util/Collections$UnmodifiableList" mUL ∧ Mir Z "java/util/Collections$UnmodifiableRandomAccessList" mUR ∧ Mir Z "[Ljava/lang/Object;" mOA
theorem own_d_jdk_43_3_0 : decode jdk_43_method_3_code 0 = .ok (.iload_n 0, 1) := by decide +kernel
theorem own_d_jdk_43_3_1 : decode jdk_43_method_3_code 1 = .ok (.sipush 255, 3) := by decide +kernel
theorem own_d_jdk_43_3_4 : decode jdk_43_method_3_code 4 = .ok (.if_icmp .gt 7, 3) := by decide +kernel
theorem own_d_jdk_43_3_7 : decode jdk_43_method_3_code 7 = .ok (.iconst 1, 1) := by decide +kernel
theorem own_d_jdk_43_3_8 : decode jdk_43_method_3_code 8 = .ok (.goto 4, 3) := by decide +kernel
theorem own_d_jdk_43_3_12 : decode jdk_43_method_3_code 12 = .ok (.ireturn, 1) := by decide +kernel
abbrev own_y_8 : MethodName := ⟨"java/lang/StringLatin1", "canEncode", "(C)Z"⟩
theorem own_pn_9 : plainName "java/lang/StringLatin1" = true := by first | (simp [plainName, overriddenIn]; done) | decide +kernel
theorem own_ef_rmCE (m : MethodId) (ch : Int32)  : entryFrame m #[(.int ch)] 1 = mkF m 0 #[.val (.int ch)] [] := by first | (simp [entryFrame, mkF, argsToLocals, Value.category, maxLocals]; done) | rfl
def QrmCE (Z : State) (w0 w1 w2 w3 wl wle wd mAL mUL mUR mOA : Addr) (wcs : Int32) (kle kd : ClassId) (ch : Int32) (h0 : Heap) (n0 : Nat) (v : Option Value) (h : Heap) (L : List Loc) : Prop := v = some (.int (1 : Int32)) ∧ Fr n0 L ∧ h = h0
set_option maxRecDepth 65536 in
set_option maxHeartbeats 40000000 in
theorem rmCE (l : Launch) (Z : State) (a0 : Array Value) (hw : own_H a0 Z) (ws : List Jvm.Cond) (w0 w1 w2 w3 wl wle wd mAL mUL mUR mOA : Addr) (wcs : Int32) (kle kd : ClassId) (hS : own_S Z w0 w1 w2 w3 wl wle wd mAL mUL mUR mOA wcs kle kd) (ch : Int32) (h0 : Heap) (n0 : Nat) (O0 : Old Z n0 h0) (hch : ¬ (255 : Int32) < ch) :
    own_Met l own_y_8 jdk_43_method_3_code 1 (some .boolean) ws ({ frames := 0, cells := 0, slots := 0, locals := 0 } : Room) Z h0 #[(.int ch)] (QrmCE Z w0 w1 w2 w3 wl wle wd mAL mUL mUR mOA wcs kle kd ch h0 n0) := by
  refine own_body (plainFor_of_name own_pn_9) ?_
  intro p e s m below meth c s₁ hx hby hml hown hnm hret hlk hZ e0 X0
  have N0 := Fr.nil n0
  refine own_st (fun u_ k_ => castTop (own_ef_rmCE m ch) k_) ?_
  show own_Go p e below _ (s₁.setTop (mkF m 0 #[.val (.int ch)] []))
  refine own_st (fun u_ k_ => XS.iloadN X0.here hx rfl (hb hby own_d_jdk_43_3_0) rfl k_) ?_
  refine own_st (fun u_ k_ => XS.sipush X0.here hx rfl (hb hby own_d_jdk_43_3_1) k_) ?_
  show own_Go p e below _ (s₁.setTop (mkF m 4 #[.val (.int ch)] [(.int (255 : Int32)), (.int ch)]))
  refine own_st (fun u_ k_ => XS.icmpNo X0.here hx rfl (hb hby own_d_jdk_43_3_4) rfl (XT.ii_gt_f hch) k_) ?_
  refine own_st (fun u_ k_ => XS.iconst X0.here hx rfl (hb hby own_d_jdk_43_3_7) k_) ?_
  show own_Go p e below _ (s₁.setTop (mkF m 8 #[.val (.int ch)] [(.int (1 : Int32))]))
  refine own_st (fun u_ k_ => XS.goto X0.here hx rfl (pc0 := 8) (pc' := 12) rfl (hb hby own_d_jdk_43_3_8) (by decide) (by decide) k_) ?_
  exact own_retX X0 hx hlk hret rfl (Or.inl ⟨rfl, by simp, _, rfl⟩) (hb hby own_d_jdk_43_3_12) (by decide) (by decide) (show QrmCE Z w0 w1 w2 w3 wl wle wd mAL mUL mUR mOA wcs kle kd ch h0 n0 (some (.int (1 : Int32))) s₁.heap _ from (by rw [e0]; exact ⟨rfl, N0, rfl⟩))
theorem own_d_jdk_43_46_0 : decode jdk_43_method_46_code 0 = .ok (.iconst 1, 1) := by decide +kernel
theorem own_d_jdk_43_46_1 : decode jdk_43_method_46_code 1 = .ok (.newarray .byte, 2) := by decide +kernel
theorem own_lm_12 : "[" ++ (newarray.typeOf .byte).toString = "[B" := by decide +kernel
theorem own_d_jdk_43_46_3 : decode jdk_43_method_46_code 3 = .ok (.dup, 1) := by decide +kernel
theorem own_d_jdk_43_46_4 : decode jdk_43_method_46_code 4 = .ok (.iconst 0, 1) := by decide +kernel
theorem own_d_jdk_43_46_5 : decode jdk_43_method_46_code 5 = .ok (.iload_n 0, 1) := by decide +kernel
theorem own_d_jdk_43_46_6 : decode jdk_43_method_46_code 6 = .ok (.i2b, 1) := by decide +kernel
theorem own_d_jdk_43_46_7 : decode jdk_43_method_46_code 7 = .ok (.bastore, 1) := by decide +kernel
theorem own_d_jdk_43_46_8 : decode jdk_43_method_46_code 8 = .ok (.areturn, 1) := by decide +kernel
abbrev own_y_19 : MethodName := ⟨"java/lang/StringLatin1", "toBytes", "(C)[B"⟩
theorem own_ef_rmTB (m : MethodId) (ch : Int32)  : entryFrame m #[(.int ch)] 1 = mkF m 0 #[.val (.int ch)] [] := by first | (simp [entryFrame, mkF, argsToLocals, Value.category, maxLocals]; done) | rfl
def QrmTB (Z : State) (w0 w1 w2 w3 wl wle wd mAL mUL mUR mOA : Addr) (wcs : Int32) (kle kd : ClassId) (ch : Int32) (h0 : Heap) (n0 : Nat) (v : Option Value) (h : Heap) (L : List Loc) : Prop := ∃ r : Addr, v = some (.ref r) ∧ Fr n0 L ∧ Keep h0 h [] ∧ h0.size ≤ r ∧ Exa Z h r "[B"
set_option maxRecDepth 65536 in
set_option maxHeartbeats 40000000 in
theorem rmTB (l : Launch) (Z : State) (a0 : Array Value) (hw : own_H a0 Z) (ws : List Jvm.Cond) (w0 w1 w2 w3 wl wle wd mAL mUL mUR mOA : Addr) (wcs : Int32) (kle kd : ClassId) (hS : own_S Z w0 w1 w2 w3 wl wle wd mAL mUL mUR mOA wcs kle kd) (ch : Int32) (h0 : Heap) (n0 : Nat) (O0 : Old Z n0 h0)  :
    own_Met l own_y_19 jdk_43_method_46_code 1 (some (.array .byte)) ws ({ frames := 0, cells := 1, slots := 1, locals := 0 } : Room) Z h0 #[(.int ch)] (QrmTB Z w0 w1 w2 w3 wl wle wd mAL mUL mUR mOA wcs kle kd ch h0 n0) := by
  refine own_body (plainFor_of_name own_pn_9) ?_
  intro p e s m below meth c s₁ hx hby hml hown hnm hret hlk hZ e0 X0
  have N0 := Fr.nil n0
  refine own_st (fun u_ k_ => castTop (own_ef_rmTB m ch) k_) ?_
  show own_Go p e below _ (s₁.setTop (mkF m 0 #[.val (.int ch)] []))
  refine own_st (fun u_ k_ => XS.iconst X0.here hx rfl (hb hby own_d_jdk_43_46_0) k_) ?_
  obtain ⟨T1, h1, k1, X1, e1, E1, A1, Y1, st1⟩ := newPE X0 hx hZ (own_w hw 14 rfl) e0 (g := (mkF m 1 #[.val (.int ch)] [(.int (1 : Int32))])) rfl (hb hby own_d_jdk_43_46_1) rfl (by decide) (cap := 1) (by decide) (by decide) (by decide) (by decide) (ad := "[B") own_lm_12
  obtain ⟨b1, g1⟩ : ∃ z, z = h0.size := ⟨_, rfl⟩
  rw [← g1] at A1 Y1 st1
  have V1 : Arv Z h1 b1 k1 .byte (1 : Int32) [(.int (0 : Int32))] (.int (0 : Int32)) := (Arv.new A1 (by decide)).pad (pad_rep [] (.int (0 : Int32)) 1)
  refine own_st (fun u_ k_ => st1 u_ k_) ?_
  show own_Go p e below _ (T1.setTop (mkF m 3 #[.val (.int ch)] [(.ref b1)]))
  refine own_st (fun u_ k_ => XS.dup X1.here hx rfl (hb hby own_d_jdk_43_46_3) rfl rfl k_) ?_
  refine own_st (fun u_ k_ => XS.iconst X1.here hx rfl (hb hby own_d_jdk_43_46_4) k_) ?_
  show own_Go p e below _ (T1.setTop (mkF m 5 #[.val (.int ch)] [(.int (0 : Int32)), (.ref b1), (.ref b1)]))
  refine own_st (fun u_ k_ => XS.iloadN X1.here hx rfl (hb hby own_d_jdk_43_46_5) rfl k_) ?_
  refine own_st (fun u_ k_ => XS.i2b X1.here hx rfl (hb hby own_d_jdk_43_46_6) rfl k_) ?_
  show own_Go p e below _ (T1.setTop (mkF m 7 #[.val (.int ch)] [(.int (ch.toInt8.toInt32)), (.int (0 : Int32)), (.ref b1), (.ref b1)]))
  obtain ⟨cl2, Ar2, q2, S2, N2, H2, G2⟩ := id V1
  have hi2 : ¬ ((0 : Int32) < 0 ∨ cl2.slots.size ≤ ((0 : Int32)).toNatClampNeg) := inb_of S2 ⟨by decide, by decide⟩
  obtain ⟨T3, h3, X3, e3, W3, st3⟩ := stB X1 hx hZ e1 Ar2 (j := (0 : Int32)) hi2 (g := (mkF m 7 #[.val (.int ch)] [(.int (ch.toInt8.toInt32)), (.int (0 : Int32)), (.ref b1), (.ref b1)])) rfl rfl (hb hby own_d_jdk_43_46_7)
  rw [own_bb] at W3
  have g4 : n0 ≤ b1 := Nat.le_trans (own_nl O0) (Nat.le_of_eq g1.symm)
  have N3 := Fr.snoc X3 N0 g4
  have V3 : Arv Z h3 b1 k1 .byte (1 : Int32) [(.int (ch.toInt8.toInt32))] (.int (0 : Int32)) := Arv.set Ar2 q2 S2 N2 H2 G2 (fits_nar_byte _) W3 0 rfl (Nat.le_of_ble_eq_true rfl)
  refine own_st (fun u_ k_ => st3 u_ k_) ?_
  show own_Go p e below _ (T3.setTop (mkF m 8 #[.val (.int ch)] [(.ref b1)]))
  have K5 : Keep h0 h1 [] := (Keep.refl h0 []).ext E1
  have z7 : h0.size ≤ b1 := Nat.le_trans (Nat.le_refl _) (Nat.le_of_eq g1.symm)
  have K6 : Keep h0 h3 [] := K5.wr W3 (Or.inr z7)
  have F8 := (Exa.wr W3 Y1)
  exact own_retX X3 hx hlk hret rfl (Or.inr (Or.inr (Or.inr (Or.inr ⟨rfl, rfl, rfl⟩)))) (hb hby own_d_jdk_43_46_8) (by decide) (by decide) (show QrmTB Z w0 w1 w2 w3 wl wle wd mAL mUL mUR mOA wcs kle kd ch h0 n0 (some (.ref b1)) T3.heap _ from (by rw [e3]; exact ⟨b1, rfl, N3, K6, z7, F8⟩))
theorem own_d_jdk_42_151_0 : decode jdk_42_method_151_code 0 = .ok (.aload_n 0, 1) := by decide +kernel
theorem own_d_jdk_42_151_1 : decode jdk_42_method_151_code 1 = .ok (.invokespecial 1, 3) := by decide +kernel
theorem own_d_jdk_42_151_4 : decode jdk_42_method_151_code 4 = .ok (.aload_n 0, 1) := by decide +kernel
theorem own_d_jdk_42_151_5 : decode jdk_42_method_151_code 5 = .ok (.aload_n 1, 1) := by decide +kernel
theorem own_d_jdk_42_151_6 : decode jdk_42_method_151_code 6 = .ok (.putfield 9, 3) := by decide +kernel
theorem own_lm_25 : parseFieldDescriptor "[B" = some (.array .byte) := by decide +kernel
theorem own_d_jdk_42_151_9 : decode jdk_42_method_151_code 9 = .ok (.aload_n 0, 1) := by decide +kernel
theorem own_d_jdk_42_151_10 : decode jdk_42_method_151_code 10 = .ok (.iload_n 2, 1) := by decide +kernel
theorem own_d_jdk_42_151_11 : decode jdk_42_method_151_code 11 = .ok (.putfield 15, 3) := by decide +kernel
theorem own_lm_29 : ("coder" : String) ≠ "value" := by decide +kernel
theorem own_lm_30 : parseFieldDescriptor "B" = some .byte := by decide +kernel
def own_sn_31 {Z : State} {a0 : Array Value} (hw : own_H a0 Z) := slot_ne (Or.inr (own_w hw 25 rfl)) (Or.inr (own_w hw 23 rfl)) own_lm_29 (t := .byte) (t' := (.array .byte)) own_lm_30 own_lm_25
theorem own_d_jdk_42_151_14 : decode jdk_42_method_151_code 14 = .ok (.return_, 1) := by decide +kernel
abbrev own_y_33 : MethodName := ⟨"java/lang/String", "<init>", "([BB)V"⟩
theorem own_pn_34 : plainName "java/lang/String" = true := by first | (simp [plainName, overriddenIn]; done) | decide +kernel
theorem own_ef_rmSI (m : MethodId) (a : Addr) (b : Addr)  : entryFrame m #[(.ref a), (.ref b), (.int (0 : Int32))] 3 = mkF m 0 #[.val (.ref a), .val (.ref b), .val (.int (0 : Int32))] [] := by first | (simp [entryFrame, mkF, argsToLocals, Value.category, maxLocals]; done) | rfl
def QrmSI (Z : State) (w0 w1 w2 w3 wl wle wd mAL mUL mUR mOA : Addr) (wcs : Int32) (kle kd : ClassId) (a : Addr) (b : Addr) (h0 : Heap) (n0 : Nat) (v : Option Value) (h : Heap) (L : List Loc) : Prop := v = none ∧ Fr n0 L ∧ Keep h0 h [a] ∧ Exa Z h a "java/lang/String"
set_option maxRecDepth 65536 in
set_option maxHeartbeats 40000000 in
theorem rmSI (l : Launch) (Z : State) (a0 : Array Value) (hw : own_H a0 Z) (ws : List Jvm.Cond) (w0 w1 w2 w3 wl wle wd mAL mUL mUR mOA : Addr) (wcs : Int32) (kle kd : ClassId) (hS : own_S Z w0 w1 w2 w3 wl wle wd mAL mUL mUR mOA wcs kle kd) (a : Addr) (b : Addr) (h0 : Heap) (n0 : Nat) (O0 : Old Z n0 h0) (E : Exa Z h0 a "java/lang/String") (ga : n0 ≤ a) (F1 : Fld Z h0 a "java/lang/String" "value" "[B" .null) (F2 : Fld Z h0 a "java/lang/String" "coder" "B" (.int (0 : Int32))) :
    own_Met l own_y_33 jdk_42_method_151_code 3 none ws ({ frames := 1, cells := 0, slots := 0, locals := 12 } : Room) Z h0 #[(.ref a), (.ref b), (.int (0 : Int32))] (QrmSI Z w0 w1 w2 w3 wl wle wd mAL mUL mUR mOA wcs kle kd a b h0 n0) := by
  refine own_body (plainFor_of_name own_pn_34) ?_
  intro p e s m below meth c s₁ hx hby hml hown hnm hret hlk hZ e0 X0
  have N0 := Fr.nil n0
  refine own_st (fun u_ k_ => castTop (own_ef_rmSI m a b) k_) ?_
  show own_Go p e below _ (s₁.setTop (mkF m 0 #[.val (.ref a), .val (.ref b), .val (.int (0 : Int32))] []))
  refine own_st (fun u_ k_ => XS.aloadN X0.here hx rfl (hb hby own_d_jdk_42_151_0) rfl rfl k_) ?_
  obtain ⟨T9, X9, e9, st9⟩ := initO X0 hx hZ hown (own_w hw 19 rfl) (own_w hw 20 rfl) (own_w hw 21 rfl) e0 (g := (mkF m 1 #[.val (.ref a), .val (.ref b), .val (.int (0 : Int32))] [(.ref a)])) rfl (by rw [hml]; rfl) rfl (hb hby own_d_jdk_42_151_1) (by decide) (W := 0) (by show 2 * 0 + _ ≤ _; exact Nat.le_of_eq rfl) (by decide)
  refine own_st (fun u_ k_ => st9 u_ k_) ?_
  show own_Go p e below _ (T9.setTop (mkF m 4 #[.val (.ref a), .val (.ref b), .val (.int (0 : Int32))] []))
  refine own_st (fun u_ k_ => XS.aloadN X9.here hx rfl (hb hby own_d_jdk_42_151_4) rfl rfl k_) ?_
  refine own_st (fun u_ k_ => XS.aloadN X9.here hx rfl (hb hby own_d_jdk_42_151_5) rfl rfl k_) ?_
  show own_Go p e below _ (T9.setTop (mkF m 6 #[.val (.ref a), .val (.ref b), .val (.int (0 : Int32))] [(.ref b), (.ref a)]))
  obtain ⟨T10, h10, X10, e10, W10, st10⟩ := putF X9 hx hZ hown (host := "") (Or.inl (own_w hw 22 rfl)) Via.refl e9 F1 E (Or.inr ⟨(own_w hw 23 rfl), rfl, hnm⟩) (own_w hw 10 rfl) (ty := (.array .byte)) own_lm_25 rfl rfl (g := (mkF m 6 #[.val (.ref a), .val (.ref b), .val (.int (0 : Int32))] [(.ref b), (.ref a)])) rfl rfl (hb hby own_d_jdk_42_151_6)
  have N10 := Fr.snoc X10 N0 ga
  have F11 : Fld Z h10 a "java/lang/String" "value" "[B" (.ref b) := Fld.same W10 F1
  refine own_st (fun u_ k_ => st10 u_ k_) ?_
  show own_Go p e below _ (T10.setTop (mkF m 9 #[.val (.ref a), .val (.ref b), .val (.int (0 : Int32))] []))
  refine own_st (fun u_ k_ => XS.aloadN X10.here hx rfl (hb hby own_d_jdk_42_151_9) rfl rfl k_) ?_
  refine own_st (fun u_ k_ => XS.iloadN X10.here hx rfl (hb hby own_d_jdk_42_151_10) rfl k_) ?_
  show own_Go p e below _ (T10.setTop (mkF m 11 #[.val (.ref a), .val (.ref b), .val (.int (0 : Int32))] [(.int (0 : Int32)), (.ref a)]))
  have F12 := (Exa.wr W10 E)
  have F13 := (Fld.other W10 F2 (Or.inr (own_sn_31 hw)))
  obtain ⟨T14, h14, X14, e14, W14, st14⟩ := putF X10 hx hZ hown (host := "") (Or.inl (own_w hw 24 rfl)) Via.refl e10 F13 F12 (Or.inr ⟨(own_w hw 25 rfl), rfl, hnm⟩) (own_w hw 10 rfl) (ty := .byte) own_lm_30 rfl rfl (g := (mkF m 11 #[.val (.ref a), .val (.ref b), .val (.int (0 : Int32))] [(.int (0 : Int32)), (.ref a)])) rfl rfl (hb hby own_d_jdk_42_151_11)
  have N14 := Fr.snoc X14 N10 ga
  have F15 : Fld Z h14 a "java/lang/String" "coder" "B" (.int (0 : Int32)) := Fld.same W14 F13
  refine own_st (fun u_ k_ => st14 u_ k_) ?_
  show own_Go p e below _ (T14.setTop (mkF m 14 #[.val (.ref a), .val (.ref b), .val (.int (0 : Int32))] []))
  have K16 : Keep h0 h10 [a] := (Keep.refl h0 [a]).wr W10 (Or.inl (List.mem_of_getElem? (i := 0) rfl))
  have K17 : Keep h0 h14 [a] := K16.wr W14 (Or.inl (List.mem_of_getElem? (i := 0) rfl))
  have F18 := (Exa.wr W14 F12)
  exact own_retV X14 hx hlk hret (hb hby own_d_jdk_42_151_14) (by decide) (by decide) (show QrmSI Z w0 w1 w2 w3 wl wle wd mAL mUL mUR mOA wcs kle kd a b h0 n0 none T14.heap _ from (by rw [e14]; exact ⟨rfl, N14, K17, F18⟩))
theorem own_d_jdk_42_139_0 : decode jdk_42_method_139_code 0 = .ok (.getstatic 38, 3) := by decide +kernel
theorem own_d_jdk_42_139_3 : decode jdk_42_method_139_code 3 = .ok (.ifCond .eq 23, 3) := by decide +kernel
theorem own_d_jdk_42_139_6 : decode jdk_42_method_139_code 6 = .ok (.iload_n 0, 1) := by decide +kernel
theorem own_d_jdk_42_139_7 : decode jdk_42_method_139_code 7 = .ok (.invokestatic 1015, 3) := by decide +kernel
theorem own_lm_39 : ("java/lang/StringLatin1" : String) ≠ "java/lang/invoke/MethodHandle" ∧ ("java/lang/StringLatin1" : String) ≠ "java/lang/invoke/VarHandle" := by decide +kernel
theorem own_pd_40 : parseMethodDescriptor "(C)Z" = some ⟨[.char], some .boolean⟩ := by decide +kernel
theorem own_d_jdk_42_139_10 : decode jdk_42_method_139_code 10 = .ok (.ifCond .eq 16, 3) := by decide +kernel
theorem own_d_jdk_42_139_13 : decode jdk_42_method_139_code 13 = .ok (.new 10, 3) := by decide +kernel
theorem own_d_jdk_42_139_16 : decode jdk_42_method_139_code 16 = .ok (.dup, 1) := by decide +kernel
theorem own_d_jdk_42_139_17 : decode jdk_42_method_139_code 17 = .ok (.iload_n 0, 1) := by decide +kernel
theorem own_d_jdk_42_139_18 : decode jdk_42_method_139_code 18 = .ok (.invokestatic 1018, 3) := by decide +kernel
theorem own_pd_46 : parseMethodDescriptor "(C)[B" = some ⟨[.char], some (.array .byte)⟩ := by decide +kernel
theorem own_d_jdk_42_139_21 : decode jdk_42_method_139_code 21 = .ok (.iconst 0, 1) := by decide +kernel
theorem own_d_jdk_42_139_22 : decode jdk_42_method_139_code 22 = .ok (.invokespecial 209, 3) := by decide +kernel
theorem own_lm_49 : ("java/lang/String" : String) ≠ "java/lang/invoke/MethodHandle" ∧ ("java/lang/String" : String) ≠ "java/lang/invoke/VarHandle" := by decide +kernel
theorem own_pd_50 : parseMethodDescriptor "([BB)V" = some ⟨[(.array .byte), .byte], none⟩ := by decide +kernel
theorem own_d_jdk_42_139_25 : decode jdk_42_method_139_code 25 = .ok (.areturn, 1) := by decide +kernel
abbrev own_y_52 : MethodName := ⟨"java/lang/String", "valueOf", "(C)Ljava/lang/String;"⟩
theorem own_ef_rmVO (m : MethodId) (ch : Int32)  : entryFrame m #[(.int ch)] 1 = mkF m 0 #[.val (.int ch)] [] := by first | (simp [entryFrame, mkF, argsToLocals, Value.category, maxLocals]; done) | rfl
def QrmVO (Z : State) (w0 w1 w2 w3 wl wle wd mAL mUL mUR mOA : Addr) (wcs : Int32) (kle kd : ClassId) (ch : Int32) (h0 : Heap) (n0 : Nat) (v : Option Value) (h : Heap) (L : List Loc) : Prop := ∃ r : Addr, v = some (.ref r) ∧ Fr n0 L ∧ Keep h0 h [] ∧ h0.size ≤ r ∧ Exa Z h r "java/lang/String"
set_option maxRecDepth 65536 in
set_option maxHeartbeats 40000000 in
theorem rmVO (l : Launch) (Z : State) (a0 : Array Value) (hw : own_H a0 Z) (ws : List Jvm.Cond) (w0 w1 w2 w3 wl wle wd mAL mUL mUR mOA : Addr) (wcs : Int32) (kle kd : ClassId) (hS : own_S Z w0 w1 w2 w3 wl wle wd mAL mUL mUR mOA wcs kle kd) (ch : Int32) (h0 : Heap) (n0 : Nat) (O0 : Old Z n0 h0) (hch : ¬ (255 : Int32) < ch) :
    own_Met l own_y_52 jdk_42_method_139_code 1 (some (.object "java/lang/String")) ws ({ frames := 2, cells := 2, slots := 5, locals := 27 } : Room) Z h0 #[(.int ch)] (QrmVO Z w0 w1 w2 w3 wl wle wd mAL mUL mUR mOA wcs kle kd ch h0 n0) := by
  refine own_body (plainFor_of_name own_pn_34) ?_
  intro p e s m below meth c s₁ hx hby hml hown hnm hret hlk hZ e0 X0
  have N0 := Fr.nil n0
  refine own_st (fun u_ k_ => castTop (own_ef_rmVO m ch) k_) ?_
  show own_Go p e below _ (s₁.setTop (mkF m 0 #[.val (.int ch)] []))
  have F19 := Sta.ext O0.2 hS.2.2.2.2.2.2.2.2.1
  obtain ⟨T20, X20, e20, st20⟩ := getS2 X0 hx hZ hown (host := "") (Or.inl (own_w hw 4 rfl)) Via.refl e0 F19 (g := (mkF m 0 #[.val (.int ch)] [])) rfl (hb hby own_d_jdk_42_139_0)
  refine own_st (fun u_ k_ => st20 u_ k_) ?_
  show own_Go p e below _ (T20.setTop (mkF m 3 #[.val (.int ch)] [(.int wcs)]))
  refine own_st (fun u_ k_ => XS.ifNo X20.here hx rfl (hb hby own_d_jdk_42_139_3) rfl (XT.i0_eq_f hS.2.2.2.2.2.2.2.2.2.1) k_) ?_
  refine own_st (fun u_ k_ => XS.iloadN X20.here hx rfl (hb hby own_d_jdk_42_139_6) rfl k_) ?_
  show own_Go p e below _ (T20.setTop (mkF m 7 #[.val (.int ch)] [(.int ch)]))
  obtain ⟨T21, v21, L21, X21, hQ21, st21⟩ := own_callS X20 hx hZ (y := own_y_8) hown (own_w hw 5 rfl) (own_w hw 6 rfl) (own_w hw 7 rfl) (own_w hw 8 rfl) own_lm_39 (rmCE l Z a0 hw [] w0 w1 w2 w3 wl wle wd mAL mUL mUR mOA wcs kle kd hS ch h0 n0 O0 (by assumption)) e20 own_pd_40 (argsL := [(.int ch)]) (rest := []) rfl rfl (g := (mkF m 7 #[.val (.int ch)] [(.int ch)])) rfl (by rw [hml]; rfl) rfl (hb hby own_d_jdk_42_139_7) (W := 0) rfl (by decide) (by decide) (by decide) (by decide)
  obtain ⟨rfl, M21, e21⟩ := hQ21
  have N21 := Fr.app N0 M21
  refine own_st (fun u_ k_ => st21 u_ k_) ?_
  show own_Go p e below _ (T21.setTop (mkF m 10 #[.val (.int ch)] [(.int (1 : Int32))]))
  refine own_st (fun u_ k_ => XS.ifNo X21.here hx rfl (hb hby own_d_jdk_42_139_10) rfl (XT.i0_eq_f (by decide)) k_) ?_
  obtain ⟨T22, h22, X22, e22, E22, A22, D22, U22, st22⟩ := newO X21 hx hZ hown (own_w hw 9 rfl) (own_w hw 10 rfl) (own_w hw 2 rfl) e21 (g := (mkF m 13 #[.val (.int ch)] [])) rfl (hb hby own_d_jdk_42_139_13) (by decide) (by decide)
  obtain ⟨b22, g22⟩ : ∃ z, z = h0.size := ⟨_, rfl⟩
  rw [← g22] at A22 D22 U22 st22
  have F22_value : Fld Z h22 b22 "java/lang/String" "value" "[B" .null := D22 (Or.inr (own_w hw 23 rfl)) (ty := (.array .byte)) own_lm_25
  have F22_coder : Fld Z h22 b22 "java/lang/String" "coder" "B" (.int (0 : Int32)) := D22 (Or.inr (own_w hw 25 rfl)) (ty := .byte) own_lm_30
  refine own_st (fun u_ k_ => st22 u_ k_) ?_
  show own_Go p e below _ (T22.setTop (mkF m 16 #[.val (.int ch)] [(.ref b22)]))
  refine own_st (fun u_ k_ => XS.dup X22.here hx rfl (hb hby own_d_jdk_42_139_16) rfl rfl k_) ?_
  refine own_st (fun u_ k_ => XS.iloadN X22.here hx rfl (hb hby own_d_jdk_42_139_17) rfl k_) ?_
  show own_Go p e below _ (T22.setTop (mkF m 18 #[.val (.int ch)] [(.int ch), (.ref b22), (.ref b22)]))
  have O24 : Old Z n0 h22 := O0.ext E22
  obtain ⟨T23, v23, L23, X23, hQ23, st23⟩ := own_callS X22 hx hZ (y := own_y_19) hown (own_w hw 11 rfl) (own_w hw 12 rfl) (own_w hw 7 rfl) (own_w hw 13 rfl) own_lm_39 (rmTB l Z a0 hw [] w0 w1 w2 w3 wl wle wd mAL mUL mUR mOA wcs kle kd hS ch h22 n0 O24 ) e22 own_pd_46 (argsL := [(.int ch)]) (rest := [(.ref b22), (.ref b22)]) rfl rfl (g := (mkF m 18 #[.val (.int ch)] [(.int ch), (.ref b22), (.ref b22)])) rfl (by rw [hml]; rfl) rfl (hb hby own_d_jdk_42_139_18) (W := 2) rfl (by decide) (by decide) (by decide) (by decide)
  obtain ⟨r_25, rfl, M23, K23, z26, F27⟩ := hQ23
  have N23 := Fr.app N21 M23
  refine own_st (fun u_ k_ => st23 u_ k_) ?_
  show own_Go p e below _ (T23.setTop (mkF m 21 #[.val (.int ch)] [(.ref r_25), (.ref b22), (.ref b22)]))
  refine own_st (fun u_ k_ => XS.iconst X23.here hx rfl (hb hby own_d_jdk_42_139_21) k_) ?_
  have F28 := (A22.keep K23)
  have g29 : n0 ≤ b22 := Nat.le_trans (own_nl O0) (Nat.le_of_eq g22.symm)
  have F30 := (F22_value.keep K23 nin0)
  have F31 := (F22_coder.keep K23 nin0)
  have O33 : Old Z n0 T23.heap := O24.keep K23 all0
  obtain ⟨T32, v32, L32, X32, hQ32, st32⟩ := own_callN X23 hx hZ (y := own_y_33) rfl hown (own_w hw 15 rfl) (own_w hw 16 rfl) (own_w hw 2 rfl) (own_w hw 18 rfl) own_lm_49 (rmSI l Z a0 hw [] w0 w1 w2 w3 wl wle wd mAL mUL mUR mOA wcs kle kd hS b22 r_25 T23.heap n0 O33 F28 g29 F30 F31) rfl own_pd_50 (a := b22) (argsL := [(.ref r_25), (.int (0 : Int32))]) (rest := [(.ref b22)]) rfl rfl (g := (mkF m 22 #[.val (.int ch)] [(.int (0 : Int32)), (.ref r_25), (.ref b22), (.ref b22)])) rfl (by rw [hml]; rfl) rfl (hb hby own_d_jdk_42_139_22) (W := 1) rfl (by decide) (by decide) (by decide) (by decide)
  obtain ⟨rfl, M32, K32, F34⟩ := hQ32
  have N32 := Fr.app N23 M32
  refine own_st (fun u_ k_ => st32 u_ k_) ?_
  show own_Go p e below _ (T32.setTop (mkF m 25 #[.val (.int ch)] [(.ref b22)]))
  have K35 : Keep h0 h22 [] := (Keep.refl h0 []).ext E22
  have K36 : Keep h0 T23.heap [] := K35.trans K23 all0
  have z38 : h0.size ≤ b22 := Nat.le_trans (Nat.le_refl _) (Nat.le_of_eq g22.symm)
  have K37 : Keep h0 T32.heap [] := K36.trans K32 (allS (Or.inr z38) all0)
  exact own_retX X32 hx hlk hret rfl (Or.inr (Or.inr (Or.inr (Or.inr ⟨rfl, rfl, rfl⟩)))) (hb hby own_d_jdk_42_139_25) (by decide) (by decide) (show QrmVO Z w0 w1 w2 w3 wl wle wd mAL mUL mUR mOA wcs kle kd ch h0 n0 (some (.ref b22)) T32.heap _ from (by exact ⟨b22, rfl, N32, K37, z38, F34⟩))
theorem own_d_jdk_40_36_0 : decode jdk_40_method_36_code 0 = .ok (.getstatic 90, 3) := by decide +kernel
theorem own_d_jdk_40_36_3 : decode jdk_40_method_36_code 3 = .ok (.areturn, 1) := by decide +kernel
abbrev own_y_55 : MethodName := ⟨"java/util/List", "of", "()Ljava/util/List;"⟩
theorem own_pn_56 : plainName "java/util/List" = true := by first | (simp [plainName, overriddenIn]; done) | decide +kernel
theorem own_ef_rmLO (m : MethodId)   : entryFrame m #[] 0 = mkF m 0 #[] [] := by first | (simp [entryFrame, mkF, argsToLocals, Value.category, maxLocals]; done) | rfl
def QrmLO (Z : State) (w0 w1 w2 w3 wl wle wd mAL mUL mUR mOA : Addr) (wcs : Int32) (kle kd : ClassId)  (h0 : Heap) (n0 : Nat) (v : Option Value) (h : Heap) (L : List Loc) : Prop := v = some (.ref wl) ∧ Fr n0 L ∧ h = h0
set_option maxRecDepth 65536 in
set_option maxHeartbeats 40000000 in
theorem rmLO (l : Launch) (Z : State) (a0 : Array Value) (hw : own_H a0 Z) (ws : List Jvm.Cond) (w0 w1 w2 w3 wl wle wd mAL mUL mUR mOA : Addr) (wcs : Int32) (kle kd : ClassId) (hS : own_S Z w0 w1 w2 w3 wl wle wd mAL mUL mUR mOA wcs kle kd)  (h0 : Heap) (n0 : Nat) (O0 : Old Z n0 h0)  :
    own_Met l own_y_55 jdk_40_method_36_code 0 (some (.object "java/util/List")) ws ({ frames := 0, cells := 0, slots := 0, locals := 0 } : Room) Z h0 #[] (QrmLO Z w0 w1 w2 w3 wl wle wd mAL mUL mUR mOA wcs kle kd  h0 n0) := by
  refine own_body (plainFor_of_name own_pn_56) ?_
  intro p e s m below meth c s₁ hx hby hml hown hnm hret hlk hZ e0 X0
  have N0 := Fr.nil n0
  refine own_st (fun u_ k_ => castTop (own_ef_rmLO m ) k_) ?_
  show own_Go p e below _ (s₁.setTop (mkF m 0 #[] []))
  have F39 := Sta.ext O0.2 hS.2.2.2.2.2.2.2.2.2.2.1
  obtain ⟨T40, X40, e40, st40⟩ := getS2 X0 hx hZ hown (host := "") (Or.inl (own_w hw 37 rfl)) Via.refl e0 F39 (g := (mkF m 0 #[] [])) rfl (hb hby own_d_jdk_40_36_0)
  refine own_st (fun u_ k_ => st40 u_ k_) ?_
  show own_Go p e below _ (T40.setTop (mkF m 3 #[] [(.ref wl)]))
  exact own_retX X40 hx hlk hret rfl (Or.inr (Or.inr (Or.inr (Or.inr ⟨rfl, rfl, rfl⟩)))) (hb hby own_d_jdk_40_36_3) (by decide) (by decide) (show QrmLO Z w0 w1 w2 w3 wl wle wd mAL mUL mUR mOA wcs kle kd  h0 n0 (some (.ref wl)) T40.heap _ from (by rw [e40]; exact ⟨rfl, N0, rfl⟩))
theorem own_d_jdk_22_1_0 : decode jdk_22_method_1_code 0 = .ok (.aload_n 0, 1) := by decide +kernel
theorem own_d_jdk_22_1_1 : decode jdk_22_method_1_code 1 = .ok (.invokespecial 1, 3) := by decide +kernel
theorem own_d_jdk_22_1_4 : decode jdk_22_method_1_code 4 = .ok (.return_, 1) := by decide +kernel
abbrev own_y_60 : MethodName := ⟨"java/util/AbstractCollection", "<init>", "()V"⟩
theorem own_pn_61 : plainName "java/util/AbstractCollection" = true := by first | (simp [plainName, overriddenIn]; done) | decide +kernel
theorem own_ef_rmAC (m : MethodId) (a : Addr)  : entryFrame m #[(.ref a)] 1 = mkF m 0 #[.val (.ref a)] [] := by first | (simp [entryFrame, mkF, argsToLocals, Value.category, maxLocals]; done) | rfl
def QrmAC (Z : State) (w0 w1 w2 w3 wl wle wd mAL mUL mUR mOA : Addr) (wcs : Int32) (kle kd : ClassId) (a : Addr) (h0 : Heap) (n0 : Nat) (v : Option Value) (h : Heap) (L : List Loc) : Prop := v = none ∧ Fr n0 L ∧ h = h0
set_option maxRecDepth 65536 in
set_option maxHeartbeats 40000000 in
theorem rmAC (l : Launch) (Z : State) (a0 : Array Value) (hw : own_H a0 Z) (ws : List Jvm.Cond) (w0 w1 w2 w3 wl wle wd mAL mUL mUR mOA : Addr) (wcs : Int32) (kle kd : ClassId) (hS : own_S Z w0 w1 w2 w3 wl wle wd mAL mUL mUR mOA wcs kle kd) (a : Addr) (h0 : Heap) (n0 : Nat) (O0 : Old Z n0 h0)  :
    own_Met l own_y_60 jdk_22_method_1_code 1 none ws ({ frames := 1, cells := 0, slots := 0, locals := 12 } : Room) Z h0 #[(.ref a)] (QrmAC Z w0 w1 w2 w3 wl wle wd mAL mUL mUR mOA wcs kle kd a h0 n0) := by
  refine own_body (plainFor_of_name own_pn_61) ?_
  intro p e s m below meth c s₁ hx hby hml hown hnm hret hlk hZ e0 X0
  have N0 := Fr.nil n0
  refine own_st (fun u_ k_ => castTop (own_ef_rmAC m a) k_) ?_
  show own_Go p e below _ (s₁.setTop (mkF m 0 #[.val (.ref a)] []))
  refine own_st (fun u_ k_ => XS.aloadN X0.here hx rfl (hb hby own_d_jdk_22_1_0) rfl rfl k_) ?_
  obtain ⟨T41, X41, e41, st41⟩ := initO X0 hx hZ hown (own_w hw 61 rfl) (own_w hw 20 rfl) (own_w hw 21 rfl) e0 (g := (mkF m 1 #[.val (.ref a)] [(.ref a)])) rfl (by rw [hml]; rfl) rfl (hb hby own_d_jdk_22_1_1) (by decide) (W := 0) (by show 2 * 0 + _ ≤ _; exact Nat.le_of_eq rfl) (by decide)
  refine own_st (fun u_ k_ => st41 u_ k_) ?_
  show own_Go p e below _ (T41.setTop (mkF m 4 #[.val (.ref a)] []))
  exact own_retV X41 hx hlk hret (hb hby own_d_jdk_22_1_4) (by decide) (by decide) (show QrmAC Z w0 w1 w2 w3 wl wle wd mAL mUL mUR mOA wcs kle kd a h0 n0 none T41.heap _ from (by rw [e41]; exact ⟨rfl, N0, rfl⟩))
theorem own_d_jdk_39_1_0 : decode jdk_39_method_1_code 0 = .ok (.aload_n 0, 1) := by decide +kernel
theorem own_d_jdk_39_1_1 : decode jdk_39_method_1_code 1 = .ok (.invokespecial 1, 3) := by decide +kernel
theorem own_lm_64 : ("java/util/AbstractCollection" : String) ≠ "java/lang/invoke/MethodHandle" ∧ ("java/util/AbstractCollection" : String) ≠ "java/lang/invoke/VarHandle" := by decide +kernel
theorem own_pd_65 : parseMethodDescriptor "()V" = some ⟨[], none⟩ := by decide +kernel
theorem own_d_jdk_39_1_4 : decode jdk_39_method_1_code 4 = .ok (.aload_n 0, 1) := by decide +kernel
theorem own_d_jdk_39_1_5 : decode jdk_39_method_1_code 5 = .ok (.iconst 0, 1) := by decide +kernel
theorem own_d_jdk_39_1_6 : decode jdk_39_method_1_code 6 = .ok (.putfield 7, 3) := by decide +kernel
theorem own_lm_69 : parseFieldDescriptor "I" = some .int := by decide +kernel
abbrev own_c_70 : String := "java/util/AbstractList"
theorem own_d_jdk_39_1_9 : decode jdk_39_method_1_code 9 = .ok (.return_, 1) := by decide +kernel
theorem own_lm_72 : ("size" : String) ≠ "modCount" := by decide +kernel
def own_sn_73 {Z : State} {a0 : Array Value} (hw : own_H a0 Z) := slot_ne (Or.inl (own_w hw 254 rfl)) (Or.inl (own_w hw 63 rfl)) own_lm_72 (t := .int) (t' := .int) own_lm_69 own_lm_69
theorem own_lm_74 : ("elementData" : String) ≠ "modCount" := by decide +kernel
theorem own_lm_75 : parseFieldDescriptor "[Ljava/lang/Object;" = some (.array (.object "java/lang/Object")) := by decide +kernel
def own_sn_76 {Z : State} {a0 : Array Value} (hw : own_H a0 Z) := slot_ne (Or.inl (own_w hw 66 rfl)) (Or.inl (own_w hw 63 rfl)) own_lm_74 (t := (.array (.object "java/lang/Object"))) (t' := .int) own_lm_75 own_lm_69
abbrev own_y_77 : MethodName := ⟨"java/util/AbstractList", "<init>", "()V"⟩
theorem own_pn_78 : plainName "java/util/AbstractList" = true := by first | (simp [plainName, overriddenIn]; done) | decide +kernel
theorem own_ef_rmAB (m : MethodId) (a : Addr)  : entryFrame m #[(.ref a)] 1 = mkF m 0 #[.val (.ref a)] [] := by first | (simp [entryFrame, mkF, argsToLocals, Value.category, maxLocals]; done) | rfl
def QrmAB (Z : State) (w0 w1 w2 w3 wl wle wd mAL mUL mUR mOA : Addr) (wcs : Int32) (kle kd : ClassId) (a : Addr) (h0 : Heap) (n0 : Nat) (v : Option Value) (h : Heap) (L : List Loc) : Prop := v = none ∧ Fr n0 L ∧ Keep h0 h [a] ∧ Exa Z h a "java/util/ArrayList" ∧ Fld Z h a own_c_70 "modCount" "I" (.int (0 : Int32)) ∧ Fld Z h a "java/util/ArrayList" "size" "I" (.int (0 : Int32)) ∧ Fld Z h a "java/util/ArrayList" "elementData" "[Ljava/lang/Object;" .null
set_option maxRecDepth 65536 in
set_option maxHeartbeats 40000000 in
theorem rmAB (l : Launch) (Z : State) (a0 : Array Value) (hw : own_H a0 Z) (ws : List Jvm.Cond) (w0 w1 w2 w3 wl wle wd mAL mUL mUR mOA : Addr) (wcs : Int32) (kle kd : ClassId) (hS : own_S Z w0 w1 w2 w3 wl wle wd mAL mUL mUR mOA wcs kle kd) (a : Addr) (h0 : Heap) (n0 : Nat) (O0 : Old Z n0 h0) (E : Exa Z h0 a "java/util/ArrayList") (ga : n0 ≤ a) (F1 : Fld Z h0 a own_c_70 "modCount" "I" (.int (0 : Int32))) (F2 : Fld Z h0 a "java/util/ArrayList" "size" "I" (.int (0 : Int32))) (F3 : Fld Z h0 a "java/util/ArrayList" "elementData" "[Ljava/lang/Object;" .null) :
    own_Met l own_y_77 jdk_39_method_1_code 1 none ws ({ frames := 2, cells := 0, slots := 0, locals := 24 } : Room) Z h0 #[(.ref a)] (QrmAB Z w0 w1 w2 w3 wl wle wd mAL mUL mUR mOA wcs kle kd a h0 n0) := by
  refine own_body (plainFor_of_name own_pn_78) ?_
  intro p e s m below meth c s₁ hx hby hml hown hnm hret hlk hZ e0 X0
  have N0 := Fr.nil n0
  refine own_st (fun u_ k_ => castTop (own_ef_rmAB m a) k_) ?_
  show own_Go p e below _ (s₁.setTop (mkF m 0 #[.val (.ref a)] []))
  refine own_st (fun u_ k_ => XS.aloadN X0.here hx rfl (hb hby own_d_jdk_39_1_0) rfl rfl k_) ?_
  obtain ⟨T42, v42, L42, X42, hQ42, st42⟩ := own_callN X0 hx hZ (y := own_y_60) rfl hown (own_w hw 55 rfl) (own_w hw 56 rfl) (own_w hw 59 rfl) (own_w hw 60 rfl) own_lm_64 (rmAC l Z a0 hw [] w0 w1 w2 w3 wl wle wd mAL mUL mUR mOA wcs kle kd hS a h0 n0 O0 ) e0 own_pd_65 (a := a) (argsL := []) (rest := []) rfl rfl (g := (mkF m 1 #[.val (.ref a)] [(.ref a)])) rfl (by rw [hml]; rfl) rfl (hb hby own_d_jdk_39_1_1) (W := 0) rfl (by decide) (by decide) (by decide) (by decide)
  obtain ⟨rfl, M42, e42⟩ := hQ42
  have N42 := Fr.app N0 M42
  refine own_st (fun u_ k_ => st42 u_ k_) ?_
  show own_Go p e below _ (T42.setTop (mkF m 4 #[.val (.ref a)] []))
  refine own_st (fun u_ k_ => XS.aloadN X42.here hx rfl (hb hby own_d_jdk_39_1_4) rfl rfl k_) ?_
  refine own_st (fun u_ k_ => XS.iconst X42.here hx rfl (hb hby own_d_jdk_39_1_5) k_) ?_
  show own_Go p e below _ (T42.setTop (mkF m 6 #[.val (.ref a)] [(.int (0 : Int32)), (.ref a)]))
  obtain ⟨T43, h43, X43, e43, W43, st43⟩ := putF X42 hx hZ hown (host := "") (Or.inl (own_w hw 62 rfl)) Via.refl e42 F1 E (Or.inl (own_w hw 63 rfl)) (own_w hw 44 rfl) (ty := .int) own_lm_69 rfl rfl (g := (mkF m 6 #[.val (.ref a)] [(.int (0 : Int32)), (.ref a)])) rfl rfl (hb hby own_d_jdk_39_1_6)
  have N43 := Fr.snoc X43 N42 ga
  have F44 : Fld Z h43 a own_c_70 "modCount" "I" (.int (0 : Int32)) := Fld.same W43 F1
  refine own_st (fun u_ k_ => st43 u_ k_) ?_
  show own_Go p e below _ (T43.setTop (mkF m 9 #[.val (.ref a)] []))
  have K45 : Keep h0 h43 [a] := (Keep.refl h0 [a]).wr W43 (Or.inl (List.mem_of_getElem? (i := 0) rfl))
  have F46 := (Exa.wr W43 E)
  have F47 := (Fld.other W43 F2 (Or.inr (own_sn_73 hw)))
  have F48 := (Fld.other W43 F3 (Or.inr (own_sn_76 hw)))
  exact own_retV X43 hx hlk hret (hb hby own_d_jdk_39_1_9) (by decide) (by decide) (show QrmAB Z w0 w1 w2 w3 wl wle wd mAL mUL mUR mOA wcs kle kd a h0 n0 none T43.heap _ from (by rw [e43]; exact ⟨rfl, N43, K45, F46, F44, F47, F48⟩))
theorem own_d_jdk_38_2_0 : decode jdk_38_method_2_code 0 = .ok (.aload_n 0, 1) := by decide +kernel
theorem own_d_jdk_38_2_1 : decode jdk_38_method_2_code 1 = .ok (.invokespecial 1, 3) := by decide +kernel
theorem own_lm_81 : ("java/util/AbstractList" : String) ≠ "java/lang/invoke/MethodHandle" ∧ ("java/util/AbstractList" : String) ≠ "java/lang/invoke/VarHandle" := by decide +kernel
theorem own_d_jdk_38_2_4 : decode jdk_38_method_2_code 4 = .ok (.aload_n 0, 1) := by decide +kernel
theorem own_d_jdk_38_2_5 : decode jdk_38_method_2_code 5 = .ok (.getstatic 39, 3) := by decide +kernel
theorem own_d_jdk_38_2_8 : decode jdk_38_method_2_code 8 = .ok (.putfield 9, 3) := by decide +kernel
theorem own_d_jdk_38_2_11 : decode jdk_38_method_2_code 11 = .ok (.return_, 1) := by decide +kernel
theorem own_lm_86 : ("modCount" : String) ≠ "elementData" := by decide +kernel
def own_sn_87 {Z : State} {a0 : Array Value} (hw : own_H a0 Z) := slot_ne (Or.inl (own_w hw 63 rfl)) (Or.inl (own_w hw 66 rfl)) own_lm_86 (t := .int) (t' := (.array (.object "java/lang/Object"))) own_lm_69 own_lm_75
theorem own_lm_88 : ("size" : String) ≠ "elementData" := by decide +kernel
def own_sn_89 {Z : State} {a0 : Array Value} (hw : own_H a0 Z) := slot_ne (Or.inl (own_w hw 254 rfl)) (Or.inl (own_w hw 66 rfl)) own_lm_88 (t := .int) (t' := (.array (.object "java/lang/Object"))) own_lm_69 own_lm_75
abbrev own_y_90 : MethodName := ⟨"java/util/ArrayList", "<init>", "()V"⟩
theorem own_pn_91 : plainName "java/util/ArrayList" = true := by first | (simp [plainName, overriddenIn]; done) | decide +kernel
theorem own_ef_rmAL (m : MethodId) (a : Addr)  : entryFrame m #[(.ref a)] 1 = mkF m 0 #[.val (.ref a)] [] := by first | (simp [entryFrame, mkF, argsToLocals, Value.category, maxLocals]; done) | rfl
def QrmAL (Z : State) (w0 w1 w2 w3 wl wle wd mAL mUL mUR mOA : Addr) (wcs : Int32) (kle kd : ClassId) (a : Addr) (h0 : Heap) (n0 : Nat) (v : Option Value) (h : Heap) (L : List Loc) : Prop := v = none ∧ Fr n0 L ∧ Keep h0 h [a] ∧ Exa Z h a "java/util/ArrayList" ∧ Fld Z h a own_c_70 "modCount" "I" (.int (0 : Int32)) ∧ Fld Z h a "java/util/ArrayList" "size" "I" (.int (0 : Int32)) ∧ Fld Z h a "java/util/ArrayList" "elementData" "[Ljava/lang/Object;" (.ref wd)
set_option maxRecDepth 65536 in
set_option maxHeartbeats 40000000 in
theorem rmAL (l : Launch) (Z : State) (a0 : Array Value) (hw : own_H a0 Z) (ws : List Jvm.Cond) (w0 w1 w2 w3 wl wle wd mAL mUL mUR mOA : Addr) (wcs : Int32) (kle kd : ClassId) (hS : own_S Z w0 w1 w2 w3 wl wle wd mAL mUL mUR mOA wcs kle kd) (a : Addr) (h0 : Heap) (n0 : Nat) (O0 : Old Z n0 h0) (E : Exa Z h0 a "java/util/ArrayList") (ga : n0 ≤ a) (F1 : Fld Z h0 a own_c_70 "modCount" "I" (.int (0 : Int32))) (F2 : Fld Z h0 a "java/util/ArrayList" "size" "I" (.int (0 : Int32))) (F3 : Fld Z h0 a "java/util/ArrayList" "elementData" "[Ljava/lang/Object;" .null) :
    own_Met l own_y_90 jdk_38_method_2_code 1 none ws ({ frames := 3, cells := 0, slots := 0, locals := 36 } : Room) Z h0 #[(.ref a)] (QrmAL Z w0 w1 w2 w3 wl wle wd mAL mUL mUR mOA wcs kle kd a h0 n0) := by
  refine own_body (plainFor_of_name own_pn_91) ?_
  intro p e s m below meth c s₁ hx hby hml hown hnm hret hlk hZ e0 X0
  have N0 := Fr.nil n0
  refine own_st (fun u_ k_ => castTop (own_ef_rmAL m a) k_) ?_
  show own_Go p e below _ (s₁.setTop (mkF m 0 #[.val (.ref a)] []))
  refine own_st (fun u_ k_ => XS.aloadN X0.here hx rfl (hb hby own_d_jdk_38_2_0) rfl rfl k_) ?_
  obtain ⟨T49, v49, L49, X49, hQ49, st49⟩ := own_callN X0 hx hZ (y := own_y_77) rfl hown (own_w hw 49 rfl) (own_w hw 50 rfl) (own_w hw 53 rfl) (own_w hw 54 rfl) own_lm_81 (rmAB l Z a0 hw [] w0 w1 w2 w3 wl wle wd mAL mUL mUR mOA wcs kle kd hS a h0 n0 O0 E ga F1 F2 F3) e0 own_pd_65 (a := a) (argsL := []) (rest := []) rfl rfl (g := (mkF m 1 #[.val (.ref a)] [(.ref a)])) rfl (by rw [hml]; rfl) rfl (hb hby own_d_jdk_38_2_1) (W := 0) rfl (by decide) (by decide) (by decide) (by decide)
  obtain ⟨rfl, M49, K49, F50, F51, F52, F53⟩ := hQ49
  have N49 := Fr.app N0 M49
  refine own_st (fun u_ k_ => st49 u_ k_) ?_
  show own_Go p e below _ (T49.setTop (mkF m 4 #[.val (.ref a)] []))
  refine own_st (fun u_ k_ => XS.aloadN X49.here hx rfl (hb hby own_d_jdk_38_2_4) rfl rfl k_) ?_
  have O54 : Old Z n0 T49.heap := O0.keep K49 (allS ga all0)
  have F55 := Sta.ext O54.2 hS.2.2.2.2.2.2.2.2.2.2.2.2.2.2.1
  obtain ⟨T56, X56, e56, st56⟩ := getS2 X49 hx hZ hown (host := "") (Or.inl (own_w hw 64 rfl)) Via.refl rfl F55 (g := (mkF m 5 #[.val (.ref a)] [(.ref a)])) rfl (hb hby own_d_jdk_38_2_5)
  refine own_st (fun u_ k_ => st56 u_ k_) ?_
  show own_Go p e below _ (T56.setTop (mkF m 8 #[.val (.ref a)] [(.ref wd), (.ref a)]))
  obtain ⟨T57, h57, X57, e57, W57, st57⟩ := putF X56 hx hZ hown (host := "") (Or.inl (own_w hw 65 rfl)) Via.refl e56 F53 F50 (Or.inl (own_w hw 66 rfl)) (own_w hw 44 rfl) (ty := (.array (.object "java/lang/Object"))) own_lm_75 rfl rfl (g := (mkF m 8 #[.val (.ref a)] [(.ref wd), (.ref a)])) rfl rfl (hb hby own_d_jdk_38_2_8)
  have N57 := Fr.snoc X57 N49 ga
  have F58 : Fld Z h57 a "java/util/ArrayList" "elementData" "[Ljava/lang/Object;" (.ref wd) := Fld.same W57 F53
  refine own_st (fun u_ k_ => st57 u_ k_) ?_
  show own_Go p e below _ (T57.setTop (mkF m 11 #[.val (.ref a)] []))
  have K59 : Keep h0 T49.heap [a] := (Keep.refl h0 [a]).trans K49 (allS (Or.inl (List.mem_of_getElem? (i := 0) rfl)) all0)
  have K60 : Keep h0 h57 [a] := K59.wr W57 (Or.inl (List.mem_of_getElem? (i := 0) rfl))
  have F61 := (Exa.wr W57 F50)
  have F62 := (Fld.other W57 F51 (Or.inr (own_sn_87 hw)))
  have F63 := (Fld.other W57 F52 (Or.inr (own_sn_89 hw)))
  exact own_retV X57 hx hlk hret (hb hby own_d_jdk_38_2_11) (by decide) (by decide) (show QrmAL Z w0 w1 w2 w3 wl wle wd mAL mUL mUR mOA wcs kle kd a h0 n0 none T57.heap _ from (by rw [e57]; exact ⟨rfl, N57, K60, F61, F62, F63, F58⟩))
theorem own_d_jdk_119_1_0 : decode jdk_119_method_1_code 0 = .ok (.aload_n 0, 1) := by decide +kernel
theorem own_d_jdk_119_1_1 : decode jdk_119_method_1_code 1 = .ok (.invokespecial 1, 3) := by decide +kernel
theorem own_d_jdk_119_1_4 : decode jdk_119_method_1_code 4 = .ok (.aload_n 1, 1) := by decide +kernel
theorem own_d_jdk_119_1_5 : decode jdk_119_method_1_code 5 = .ok (.ifnonnull 11, 3) := by decide +kernel
theorem own_d_jdk_119_1_16 : decode jdk_119_method_1_code 16 = .ok (.aload_n 0, 1) := by decide +kernel
theorem own_d_jdk_119_1_17 : decode jdk_119_method_1_code 17 = .ok (.aload_n 1, 1) := by decide +kernel
theorem own_d_jdk_119_1_18 : decode jdk_119_method_1_code 18 = .ok (.putfield 10, 3) := by decide +kernel
theorem own_lm_99 : parseFieldDescriptor "Ljava/util/Collection;" = some (.object "java/util/Collection") := by decide +kernel
abbrev own_c_100 : String := "java/util/Collections$UnmodifiableCollection"
abbrev own_c_101 : String := "Ljava/util/Collection;"
theorem own_d_jdk_119_1_21 : decode jdk_119_method_1_code 21 = .ok (.return_, 1) := by decide +kernel
theorem own_lm_103 : ("list" : String) ≠ "c" := by decide +kernel
theorem own_lm_104 : parseFieldDescriptor "Ljava/util/List;" = some (.object "java/util/List") := by decide +kernel
def own_sn_105 {Z : State} {a0 : Array Value} (hw : own_H a0 Z) := slot_ne (Or.inr (own_w hw 111 rfl)) (Or.inr (own_w hw 109 rfl)) own_lm_103 (t := (.object "java/util/List")) (t' := (.object "java/util/Collection")) own_lm_104 own_lm_99
abbrev own_y_106 : MethodName := ⟨"java/util/Collections$UnmodifiableCollection", "<init>", "(Ljava/util/Collection;)V"⟩
theorem own_pn_107 : plainName "java/util/Collections$UnmodifiableCollection" = true := by first | (simp [plainName, overriddenIn]; done) | decide +kernel
theorem own_ef_rmUC (m : MethodId) (a : Addr) (b : Addr)  : entryFrame m #[(.ref a), (.ref b)] 2 = mkF m 0 #[.val (.ref a), .val (.ref b)] [] := by first | (simp [entryFrame, mkF, argsToLocals, Value.category, maxLocals]; done) | rfl
abbrev own_c_108 : String := "java/util/Collections$UnmodifiableRandomAccessList"
abbrev own_c_109 : String := "java/util/Collections$UnmodifiableList"
def QrmUC (Z : State) (w0 w1 w2 w3 wl wle wd mAL mUL mUR mOA : Addr) (wcs : Int32) (kle kd : ClassId) (a : Addr) (b : Addr) (h0 : Heap) (n0 : Nat) (v : Option Value) (h : Heap) (L : List Loc) : Prop := v = none ∧ Fr n0 L ∧ Keep h0 h [a] ∧ Exa Z h a own_c_108 ∧ Fld Z h a own_c_109 "list" "Ljava/util/List;" .null
set_option maxRecDepth 65536 in
set_option maxHeartbeats 40000000 in
theorem rmUC (l : Launch) (Z : State) (a0 : Array Value) (hw : own_H a0 Z) (ws : List Jvm.Cond) (w0 w1 w2 w3 wl wle wd mAL mUL mUR mOA : Addr) (wcs : Int32) (kle kd : ClassId) (hS : own_S Z w0 w1 w2 w3 wl wle wd mAL mUL mUR mOA wcs kle kd) (a : Addr) (b : Addr) (h0 : Heap) (n0 : Nat) (O0 : Old Z n0 h0) (E : Exa Z h0 a own_c_108) (ga : n0 ≤ a) (F1 : Fld Z h0 a own_c_100 "c" own_c_101 .null) (F2 : Fld Z h0 a own_c_109 "list" "Ljava/util/List;" .null) :
    own_Met l own_y_106 jdk_119_method_1_code 2 none ws ({ frames := 1, cells := 0, slots := 0, locals := 12 } : Room) Z h0 #[(.ref a), (.ref b)] (QrmUC Z w0 w1 w2 w3 wl wle wd mAL mUL mUR mOA wcs kle kd a b h0 n0) := by
  refine own_body (plainFor_of_name own_pn_107) ?_
  intro p e s m below meth c s₁ hx hby hml hown hnm hret hlk hZ e0 X0
  have N0 := Fr.nil n0
  refine own_st (fun u_ k_ => castTop (own_ef_rmUC m a b) k_) ?_
  show own_Go p e below _ (s₁.setTop (mkF m 0 #[.val (.ref a), .val (.ref b)] []))
  refine own_st (fun u_ k_ => XS.aloadN X0.here hx rfl (hb hby own_d_jdk_119_1_0) rfl rfl k_) ?_
  obtain ⟨T64, X64, e64, st64⟩ := initO X0 hx hZ hown (own_w hw 107 rfl) (own_w hw 20 rfl) (own_w hw 21 rfl) e0 (g := (mkF m 1 #[.val (.ref a), .val (.ref b)] [(.ref a)])) rfl (by rw [hml]; rfl) rfl (hb hby own_d_jdk_119_1_1) (by decide) (W := 0) (by show 2 * 0 + _ ≤ _; exact Nat.le_of_eq rfl) (by decide)
  refine own_st (fun u_ k_ => st64 u_ k_) ?_
  show own_Go p e below _ (T64.setTop (mkF m 4 #[.val (.ref a), .val (.ref b)] []))
  refine own_st (fun u_ k_ => XS.aloadN X64.here hx rfl (hb hby own_d_jdk_119_1_4) rfl rfl k_) ?_
  refine own_st (fun u_ k_ => XS.ifnonnullYes X64.here hx rfl (pc0 := 5) (pc' := 16) rfl (hb hby own_d_jdk_119_1_5) rfl (by decide) (by decide) k_) ?_
  show own_Go p e below _ (T64.setTop (mkF m 16 #[.val (.ref a), .val (.ref b)] []))
  refine own_st (fun u_ k_ => XS.aloadN X64.here hx rfl (hb hby own_d_jdk_119_1_16) rfl rfl k_) ?_
  refine own_st (fun u_ k_ => XS.aloadN X64.here hx rfl (hb hby own_d_jdk_119_1_17) rfl rfl k_) ?_
  show own_Go p e below _ (T64.setTop (mkF m 18 #[.val (.ref a), .val (.ref b)] [(.ref b), (.ref a)]))
  obtain ⟨T65, h65, X65, e65, W65, st65⟩ := putF X64 hx hZ hown (host := "") (Or.inl (own_w hw 108 rfl)) Via.refl e64 F1 E (Or.inr ⟨(own_w hw 109 rfl), rfl, hnm⟩) (own_w hw 90 rfl) (ty := (.object "java/util/Collection")) own_lm_99 rfl rfl (g := (mkF m 18 #[.val (.ref a), .val (.ref b)] [(.ref b), (.ref a)])) rfl rfl (hb hby own_d_jdk_119_1_18)
  have N65 := Fr.snoc X65 N0 ga
  have F66 : Fld Z h65 a own_c_100 "c" own_c_101 (.ref b) := Fld.same W65 F1
  refine own_st (fun u_ k_ => st65 u_ k_) ?_
  show own_Go p e below _ (T65.setTop (mkF m 21 #[.val (.ref a), .val (.ref b)] []))
  have K67 : Keep h0 h65 [a] := (Keep.refl h0 [a]).wr W65 (Or.inl (List.mem_of_getElem? (i := 0) rfl))
  have F68 := (Exa.wr W65 E)
  have F69 := (Fld.other W65 F2 (Or.inr (own_sn_105 hw)))
  exact own_retV X65 hx hlk hret (hb hby own_d_jdk_119_1_21) (by decide) (by decide) (show QrmUC Z w0 w1 w2 w3 wl wle wd mAL mUL mUR mOA wcs kle kd a b h0 n0 none T65.heap _ from (by rw [e65]; exact ⟨rfl, N65, K67, F68, F69⟩))
theorem own_d_jdk_120_1_0 : decode jdk_120_method_1_code 0 = .ok (.aload_n 0, 1) := by decide +kernel
theorem own_d_jdk_120_1_1 : decode jdk_120_method_1_code 1 = .ok (.aload_n 1, 1) := by decide +kernel
theorem own_d_jdk_120_1_2 : decode jdk_120_method_1_code 2 = .ok (.invokespecial 1, 3) := by decide +kernel
theorem own_lm_113 : ("java/util/Collections$UnmodifiableCollection" : String) ≠ "java/lang/invoke/MethodHandle" ∧ ("java/util/Collections$UnmodifiableCollection" : String) ≠ "java/lang/invoke/VarHandle" := by decide +kernel
theorem own_pd_114 : parseMethodDescriptor "(Ljava/util/Collection;)V" = some ⟨[(.object "java/util/Collection")], none⟩ := by decide +kernel
theorem own_d_jdk_120_1_5 : decode jdk_120_method_1_code 5 = .ok (.aload_n 0, 1) := by decide +kernel
theorem own_d_jdk_120_1_6 : decode jdk_120_method_1_code 6 = .ok (.aload_n 1, 1) := by decide +kernel
theorem own_d_jdk_120_1_7 : decode jdk_120_method_1_code 7 = .ok (.putfield 7, 3) := by decide +kernel
theorem own_d_jdk_120_1_10 : decode jdk_120_method_1_code 10 = .ok (.return_, 1) := by decide +kernel
abbrev own_y_119 : MethodName := ⟨"java/util/Collections$UnmodifiableList", "<init>", "(Ljava/util/List;)V"⟩
theorem own_pn_120 : plainName "java/util/Collections$UnmodifiableList" = true := by first | (simp [plainName, overriddenIn]; done) | decide +kernel
theorem own_ef_rmUL (m : MethodId) (a : Addr) (b : Addr)  : entryFrame m #[(.ref a), (.ref b)] 2 = mkF m 0 #[.val (.ref a), .val (.ref b)] [] := by first | (simp [entryFrame, mkF, argsToLocals, Value.category, maxLocals]; done) | rfl
def QrmUL (Z : State) (w0 w1 w2 w3 wl wle wd mAL mUL mUR mOA : Addr) (wcs : Int32) (kle kd : ClassId) (a : Addr) (b : Addr) (h0 : Heap) (n0 : Nat) (v : Option Value) (h : Heap) (L : List Loc) : Prop := v = none ∧ Fr n0 L ∧ Keep h0 h [a] ∧ Exa Z h a own_c_108
set_option maxRecDepth 65536 in
set_option maxHeartbeats 40000000 in
theorem rmUL (l : Launch) (Z : State) (a0 : Array Value) (hw : own_H a0 Z) (ws : List Jvm.Cond) (w0 w1 w2 w3 wl wle wd mAL mUL mUR mOA : Addr) (wcs : Int32) (kle kd : ClassId) (hS : own_S Z w0 w1 w2 w3 wl wle wd mAL mUL mUR mOA wcs kle kd) (a : Addr) (b : Addr) (h0 : Heap) (n0 : Nat) (O0 : Old Z n0 h0) (E : Exa Z h0 a own_c_108) (ga : n0 ≤ a) (F1 : Fld Z h0 a own_c_100 "c" own_c_101 .null) (F2 : Fld Z h0 a own_c_109 "list" "Ljava/util/List;" .null) :
    own_Met l own_y_119 jdk_120_method_1_code 2 none ws ({ frames := 2, cells := 0, slots := 0, locals := 25 } : Room) Z h0 #[(.ref a), (.ref b)] (QrmUL Z w0 w1 w2 w3 wl wle wd mAL mUL mUR mOA wcs kle kd a b h0 n0) := by
  refine own_body (plainFor_of_name own_pn_120) ?_
  intro p e s m below meth c s₁ hx hby hml hown hnm hret hlk hZ e0 X0
  have N0 := Fr.nil n0
  refine own_st (fun u_ k_ => castTop (own_ef_rmUL m a b) k_) ?_
  show own_Go p e below _ (s₁.setTop (mkF m 0 #[.val (.ref a), .val (.ref b)] []))
  refine own_st (fun u_ k_ => XS.aloadN X0.here hx rfl (hb hby own_d_jdk_120_1_0) rfl rfl k_) ?_
  refine own_st (fun u_ k_ => XS.aloadN X0.here hx rfl (hb hby own_d_jdk_120_1_1) rfl rfl k_) ?_
  show own_Go p e below _ (s₁.setTop (mkF m 2 #[.val (.ref a), .val (.ref b)] [(.ref b), (.ref a)]))
  obtain ⟨T70, v70, L70, X70, hQ70, st70⟩ := own_callN X0 hx hZ (y := own_y_106) rfl hown (own_w hw 101 rfl) (own_w hw 102 rfl) (own_w hw 105 rfl) (own_w hw 106 rfl) own_lm_113 (rmUC l Z a0 hw [] w0 w1 w2 w3 wl wle wd mAL mUL mUR mOA wcs kle kd hS a b h0 n0 O0 E ga F1 F2) e0 own_pd_114 (a := a) (argsL := [(.ref b)]) (rest := []) rfl rfl (g := (mkF m 2 #[.val (.ref a), .val (.ref b)] [(.ref b), (.ref a)])) rfl (by rw [hml]; rfl) rfl (hb hby own_d_jdk_120_1_2) (W := 0) rfl (by decide) (by decide) (by decide) (by decide)
  obtain ⟨rfl, M70, K70, F71, F72⟩ := hQ70
  have N70 := Fr.app N0 M70
  refine own_st (fun u_ k_ => st70 u_ k_) ?_
  show own_Go p e below _ (T70.setTop (mkF m 5 #[.val (.ref a), .val (.ref b)] []))
  refine own_st (fun u_ k_ => XS.aloadN X70.here hx rfl (hb hby own_d_jdk_120_1_5) rfl rfl k_) ?_
  refine own_st (fun u_ k_ => XS.aloadN X70.here hx rfl (hb hby own_d_jdk_120_1_6) rfl rfl k_) ?_
  show own_Go p e below _ (T70.setTop (mkF m 7 #[.val (.ref a), .val (.ref b)] [(.ref b), (.ref a)]))
  obtain ⟨T73, h73, X73, e73, W73, st73⟩ := putF X70 hx hZ hown (host := "") (Or.inl (own_w hw 110 rfl)) Via.refl rfl F72 F71 (Or.inr ⟨(own_w hw 111 rfl), rfl, hnm⟩) (own_w hw 90 rfl) (ty := (.object "java/util/List")) own_lm_104 rfl rfl (g := (mkF m 7 #[.val (.ref a), .val (.ref b)] [(.ref b), (.ref a)])) rfl rfl (hb hby own_d_jdk_120_1_7)
  have N73 := Fr.snoc X73 N70 ga
  have F74 : Fld Z h73 a own_c_109 "list" "Ljava/util/List;" (.ref b) := Fld.same W73 F72
  refine own_st (fun u_ k_ => st73 u_ k_) ?_
  show own_Go p e below _ (T73.setTop (mkF m 10 #[.val (.ref a), .val (.ref b)] []))
  have K75 : Keep h0 T70.heap [a] := (Keep.refl h0 [a]).trans K70 (allS (Or.inl (List.mem_of_getElem? (i := 0) rfl)) all0)
  have K76 : Keep h0 h73 [a] := K75.wr W73 (Or.inl (List.mem_of_getElem? (i := 0) rfl))
  have F77 := (Exa.wr W73 F71)
  exact own_retV X73 hx hlk hret (hb hby own_d_jdk_120_1_10) (by decide) (by decide) (show QrmUL Z w0 w1 w2 w3 wl wle wd mAL mUL mUR mOA wcs kle kd a b h0 n0 none T73.heap _ from (by rw [e73]; exact ⟨rfl, N73, K76, F77⟩))
theorem own_d_jdk_121_1_0 : decode jdk_121_method_1_code 0 = .ok (.aload_n 0, 1) := by decide +kernel
theorem own_d_jdk_121_1_1 : decode jdk_121_method_1_code 1 = .ok (.aload_n 1, 1) := by decide +kernel
theorem own_d_jdk_121_1_2 : decode jdk_121_method_1_code 2 = .ok (.invokespecial 1, 3) := by decide +kernel
theorem own_lm_124 : ("java/util/Collections$UnmodifiableList" : String) ≠ "java/lang/invoke/MethodHandle" ∧ ("java/util/Collections$UnmodifiableList" : String) ≠ "java/lang/invoke/VarHandle" := by decide +kernel
theorem own_pd_125 : parseMethodDescriptor "(Ljava/util/List;)V" = some ⟨[(.object "java/util/List")], none⟩ := by decide +kernel
theorem own_d_jdk_121_1_5 : decode jdk_121_method_1_code 5 = .ok (.return_, 1) := by decide +kernel
abbrev own_y_127 : MethodName := ⟨"java/util/Collections$UnmodifiableRandomAccessList", "<init>", "(Ljava/util/List;)V"⟩
theorem own_pn_128 : plainName "java/util/Collections$UnmodifiableRandomAccessList" = true := by first | (simp [plainName, overriddenIn]; done) | decide +kernel
theorem own_ef_rmUR (m : MethodId) (a : Addr) (b : Addr)  : entryFrame m #[(.ref a), (.ref b)] 2 = mkF m 0 #[.val (.ref a), .val (.ref b)] [] := by first | (simp [entryFrame, mkF, argsToLocals, Value.category, maxLocals]; done) | rfl
def QrmUR (Z : State) (w0 w1 w2 w3 wl wle wd mAL mUL mUR mOA : Addr) (wcs : Int32) (kle kd : ClassId) (a : Addr) (b : Addr) (h0 : Heap) (n0 : Nat) (v : Option Value) (h : Heap) (L : List Loc) : Prop := v = none ∧ Fr n0 L ∧ Keep h0 h [a] ∧ Exa Z h a own_c_108
set_option maxRecDepth 65536 in
set_option maxHeartbeats 40000000 in
theorem rmUR (l : Launch) (Z : State) (a0 : Array Value) (hw : own_H a0 Z) (ws : List Jvm.Cond) (w0 w1 w2 w3 wl wle wd mAL mUL mUR mOA : Addr) (wcs : Int32) (kle kd : ClassId) (hS : own_S Z w0 w1 w2 w3 wl wle wd mAL mUL mUR mOA wcs kle kd) (a : Addr) (b : Addr) (h0 : Heap) (n0 : Nat) (O0 : Old Z n0 h0) (E : Exa Z h0 a own_c_108) (ga : n0 ≤ a) (F1 : Fld Z h0 a own_c_100 "c" own_c_101 .null) (F2 : Fld Z h0 a own_c_109 "list" "Ljava/util/List;" .null) :
    own_Met l own_y_127 jdk_121_method_1_code 2 none ws ({ frames := 3, cells := 0, slots := 0, locals := 38 } : Room) Z h0 #[(.ref a), (.ref b)] (QrmUR Z w0 w1 w2 w3 wl wle wd mAL mUL mUR mOA wcs kle kd a b h0 n0) := by
  refine own_body (plainFor_of_name own_pn_128) ?_
  intro p e s m below meth c s₁ hx hby hml hown hnm hret hlk hZ e0 X0
  have N0 := Fr.nil n0
  refine own_st (fun u_ k_ => castTop (own_ef_rmUR m a b) k_) ?_
  show own_Go p e below _ (s₁.setTop (mkF m 0 #[.val (.ref a), .val (.ref b)] []))
  refine own_st (fun u_ k_ => XS.aloadN X0.here hx rfl (hb hby own_d_jdk_121_1_0) rfl rfl k_) ?_
  refine own_st (fun u_ k_ => XS.aloadN X0.here hx rfl (hb hby own_d_jdk_121_1_1) rfl rfl k_) ?_
  show own_Go p e below _ (s₁.setTop (mkF m 2 #[.val (.ref a), .val (.ref b)] [(.ref b), (.ref a)]))
  obtain ⟨T78, v78, L78, X78, hQ78, st78⟩ := own_callN X0 hx hZ (y := own_y_119) rfl hown (own_w hw 95 rfl) (own_w hw 96 rfl) (own_w hw 99 rfl) (own_w hw 100 rfl) own_lm_124 (rmUL l Z a0 hw [] w0 w1 w2 w3 wl wle wd mAL mUL mUR mOA wcs kle kd hS a b h0 n0 O0 E ga F1 F2) e0 own_pd_125 (a := a) (argsL := [(.ref b)]) (rest := []) rfl rfl (g := (mkF m 2 #[.val (.ref a), .val (.ref b)] [(.ref b), (.ref a)])) rfl (by rw [hml]; rfl) rfl (hb hby own_d_jdk_121_1_2) (W := 0) rfl (by decide) (by decide) (by decide) (by decide)
  obtain ⟨rfl, M78, K78, F79⟩ := hQ78
  have N78 := Fr.app N0 M78
  refine own_st (fun u_ k_ => st78 u_ k_) ?_
  show own_Go p e below _ (T78.setTop (mkF m 5 #[.val (.ref a), .val (.ref b)] []))
  have K80 : Keep h0 T78.heap [a] := (Keep.refl h0 [a]).trans K78 (allS (Or.inl (List.mem_of_getElem? (i := 0) rfl)) all0)
  exact own_retV X78 hx hlk hret (hb hby own_d_jdk_121_1_5) (by decide) (by decide) (show QrmUR Z w0 w1 w2 w3 wl wle wd mAL mUL mUR mOA wcs kle kd a b h0 n0 none T78.heap _ from (by exact ⟨rfl, N78, K80, F79⟩))
theorem own_d_jdk_79_35_0 : decode jdk_79_method_35_code 0 = .ok (.aload_n 0, 1) := by decide +kernel
theorem own_d_jdk_79_35_1 : decode jdk_79_method_35_code 1 = .ok (.invokeinterface 211 1, 5) := by decide +kernel
abbrev own_y_131 : MethodName := ⟨"java/util/List", "getClass", "()Ljava/lang/Class;"⟩
theorem own_lm_132 : ("java/util/List" : String) ≠ "java/lang/invoke/MethodHandle" ∧ ("java/util/List" : String) ≠ "java/lang/invoke/VarHandle" := by decide +kernel
theorem own_lm_133 : ("java/util/List" : String) ≠ "java/lang/Object" := by decide +kernel
theorem own_d_jdk_79_35_6 : decode jdk_79_method_35_code 6 = .ok (.ldc 212, 2) := by decide +kernel
theorem own_d_jdk_79_35_8 : decode jdk_79_method_35_code 8 = .ok (.if_acmp .eq 14, 3) := by decide +kernel
theorem own_lm_136 : ("java/util/ArrayList" : String) ≠ "java/util/Collections$UnmodifiableList" := by decide +kernel
theorem own_d_jdk_79_35_11 : decode jdk_79_method_35_code 11 = .ok (.aload_n 0, 1) := by decide +kernel
theorem own_d_jdk_79_35_12 : decode jdk_79_method_35_code 12 = .ok (.invokeinterface 214 1, 5) := by decide +kernel
theorem own_d_jdk_79_35_17 : decode jdk_79_method_35_code 17 = .ok (.ldc 215, 2) := by decide +kernel
theorem own_d_jdk_79_35_19 : decode jdk_79_method_35_code 19 = .ok (.if_acmp .ne 5, 3) := by decide +kernel
theorem own_lm_141 : ("java/util/ArrayList" : String) ≠ "java/util/Collections$UnmodifiableRandomAccessList" := by decide +kernel
theorem own_d_jdk_79_35_24 : decode jdk_79_method_35_code 24 = .ok (.aload_n 0, 1) := by decide +kernel
theorem own_d_jdk_79_35_25 : decode jdk_79_method_35_code 25 = .ok (.instanceof 13, 3) := by decide +kernel
theorem own_d_jdk_79_35_28 : decode jdk_79_method_35_code 28 = .ok (.ifCond .eq 14, 3) := by decide +kernel
theorem own_d_jdk_79_35_31 : decode jdk_79_method_35_code 31 = .ok (.new 215, 3) := by decide +kernel
theorem own_d_jdk_79_35_34 : decode jdk_79_method_35_code 34 = .ok (.dup, 1) := by decide +kernel
theorem own_d_jdk_79_35_35 : decode jdk_79_method_35_code 35 = .ok (.aload_n 0, 1) := by decide +kernel
theorem own_d_jdk_79_35_36 : decode jdk_79_method_35_code 36 = .ok (.invokespecial 217, 3) := by decide +kernel
theorem own_lm_149 : ("java/util/Collections$UnmodifiableRandomAccessList" : String) ≠ "java/lang/invoke/MethodHandle" ∧ ("java/util/Collections$UnmodifiableRandomAccessList" : String) ≠ "java/lang/invoke/VarHandle" := by decide +kernel
theorem own_d_jdk_79_35_39 : decode jdk_79_method_35_code 39 = .ok (.goto 11, 3) := by decide +kernel
theorem own_d_jdk_79_35_50 : decode jdk_79_method_35_code 50 = .ok (.areturn, 1) := by decide +kernel
abbrev own_y_152 : MethodName := ⟨"java/util/Collections", "unmodifiableList", "(Ljava/util/List;)Ljava/util/List;"⟩
theorem own_pn_153 : plainName "java/util/Collections" = true := by first | (simp [plainName, overriddenIn]; done) | decide +kernel
theorem own_ef_rmUM (m : MethodId) (a : Addr)  : entryFrame m #[(.ref a)] 1 = mkF m 0 #[.val (.ref a)] [] := by first | (simp [entryFrame, mkF, argsToLocals, Value.category, maxLocals]; done) | rfl
def QrmUM (Z : State) (w0 w1 w2 w3 wl wle wd mAL mUL mUR mOA : Addr) (wcs : Int32) (kle kd : ClassId) (a : Addr) (h0 : Heap) (n0 : Nat) (v : Option Value) (h : Heap) (L : List Loc) : Prop := ∃ r : Addr, v = some (.ref r) ∧ Fr n0 L ∧ Keep h0 h [] ∧ h0.size ≤ r ∧ Exa Z h r own_c_108
set_option maxRecDepth 65536 in
set_option maxHeartbeats 40000000 in
theorem rmUM (l : Launch) (Z : State) (a0 : Array Value) (hw : own_H a0 Z) (ws : List Jvm.Cond) (w0 w1 w2 w3 wl wle wd mAL mUL mUR mOA : Addr) (wcs : Int32) (kle kd : ClassId) (hS : own_S Z w0 w1 w2 w3 wl wle wd mAL mUL mUR mOA wcs kle kd) (a : Addr) (h0 : Heap) (n0 : Nat) (O0 : Old Z n0 h0) (E : Exa Z h0 a "java/util/ArrayList") :
    own_Met l own_y_152 jdk_79_method_35_code 1 (some (.object "java/util/List")) ws ({ frames := 4, cells := 1, slots := 2, locals := 52 } : Room) Z h0 #[(.ref a)] (QrmUM Z w0 w1 w2 w3 wl wle wd mAL mUL mUR mOA wcs kle kd a h0 n0) := by
  refine own_body (plainFor_of_name own_pn_153) ?_
  intro p e s m below meth c s₁ hx hby hml hown hnm hret hlk hZ e0 X0
  have N0 := Fr.nil n0
  refine own_st (fun u_ k_ => castTop (own_ef_rmUM m a) k_) ?_
  show own_Go p e below _ (s₁.setTop (mkF m 0 #[.val (.ref a)] []))
  refine own_st (fun u_ k_ => XS.aloadN X0.here hx rfl (hb hby own_d_jdk_79_35_0) rfl rfl k_) ?_
  obtain ⟨T81, X81, e81, st81⟩ := own_gclsI X0 hx hZ (xi := own_y_131) hown (own_w hw 73 rfl) (own_w hw 74 rfl) (own_ifr hZ (own_w hw 75 rfl)) (own_w hw 76 rfl) (own_w hw 77 rfl) (own_w hw 78 rfl) (own_w hw 79 rfl) (own_w hw 80 rfl) (own_w hw 81 rfl) own_lm_132 own_lm_133 rfl rfl e0 E hS.2.2.2.2.2.2.2.2.2.2.2.2.2.2.2.2.2.1 (g := (mkF m 1 #[.val (.ref a)] [(.ref a)])) rfl (by rw [hml]; rfl) rfl (hb hby own_d_jdk_79_35_1) (by decide) (W := 0) (by show 2 * 0 + _ ≤ _; exact Nat.le_of_eq rfl) (by decide)
  refine own_st (fun u_ k_ => st81 u_ k_) ?_
  show own_Go p e below _ (T81.setTop (mkF m 6 #[.val (.ref a)] [(.ref mAL)]))
  obtain ⟨T82, X82, e82, st82⟩ := own_ldcM X81 hx hZ hown (own_w hw 83 rfl) e81 hS.2.2.2.2.2.2.2.2.2.2.2.2.2.2.2.2.2.2.1 (g := (mkF m 6 #[.val (.ref a)] [(.ref mAL)])) rfl (hb hby own_d_jdk_79_35_6)
  refine own_st (fun u_ k_ => st82 u_ k_) ?_
  show own_Go p e below _ (T82.setTop (mkF m 8 #[.val (.ref a)] [(.ref mUL), (.ref mAL)]))
  refine own_st (fun u_ k_ => XT.acmpNo X82.here hx rfl (hb hby own_d_jdk_79_35_8) rfl rfl rfl (XT.aa_eq_f (own_rne (Mir.ne hS.2.2.2.2.2.2.2.2.2.2.2.2.2.2.2.2.2.1 hS.2.2.2.2.2.2.2.2.2.2.2.2.2.2.2.2.2.2.1 own_lm_136))) k_) ?_
  show own_Go p e below _ (T82.setTop (mkF m 11 #[.val (.ref a)] []))
  refine own_st (fun u_ k_ => XS.aloadN X82.here hx rfl (hb hby own_d_jdk_79_35_11) rfl rfl k_) ?_
  obtain ⟨T83, X83, e83, st83⟩ := own_gclsI X82 hx hZ (xi := own_y_131) hown (own_w hw 85 rfl) (own_w hw 74 rfl) (own_ifr hZ (own_w hw 75 rfl)) (own_w hw 76 rfl) (own_w hw 77 rfl) (own_w hw 78 rfl) (own_w hw 79 rfl) (own_w hw 80 rfl) (own_w hw 81 rfl) own_lm_132 own_lm_133 rfl rfl e82 E hS.2.2.2.2.2.2.2.2.2.2.2.2.2.2.2.2.2.1 (g := (mkF m 12 #[.val (.ref a)] [(.ref a)])) rfl (by rw [hml]; rfl) rfl (hb hby own_d_jdk_79_35_12) (by decide) (W := 0) (by show 2 * 0 + _ ≤ _; exact Nat.le_of_eq rfl) (by decide)
  refine own_st (fun u_ k_ => st83 u_ k_) ?_
  show own_Go p e below _ (T83.setTop (mkF m 17 #[.val (.ref a)] [(.ref mAL)]))
  obtain ⟨T84, X84, e84, st84⟩ := own_ldcM X83 hx hZ hown (own_w hw 86 rfl) e83 hS.2.2.2.2.2.2.2.2.2.2.2.2.2.2.2.2.2.2.2.1 (g := (mkF m 17 #[.val (.ref a)] [(.ref mAL)])) rfl (hb hby own_d_jdk_79_35_17)
  refine own_st (fun u_ k_ => st84 u_ k_) ?_
  show own_Go p e below _ (T84.setTop (mkF m 19 #[.val (.ref a)] [(.ref mUR), (.ref mAL)]))
  refine own_st (fun u_ k_ => XT.acmpYes X84.here hx rfl (pc0 := 19) (pc' := 24) rfl (hb hby own_d_jdk_79_35_19) rfl rfl rfl (XT.aa_ne_t (own_rne (Mir.ne hS.2.2.2.2.2.2.2.2.2.2.2.2.2.2.2.2.2.1 hS.2.2.2.2.2.2.2.2.2.2.2.2.2.2.2.2.2.2.2.1 own_lm_141))) (by decide) (by decide) k_) ?_
  show own_Go p e below _ (T84.setTop (mkF m 24 #[.val (.ref a)] []))
  refine own_st (fun u_ k_ => XS.aloadN X84.here hx rfl (hb hby own_d_jdk_79_35_24) rfl rfl k_) ?_
  obtain ⟨T85, X85, e85, st85⟩ := instY X84 hx hZ hown (own_w hw 88 rfl) e84 (Ins.of_exa E (own_w hw 89 rfl)) (g := (mkF m 25 #[.val (.ref a)] [(.ref a)])) rfl rfl (hb hby own_d_jdk_79_35_25)
  refine own_st (fun u_ k_ => st85 u_ k_) ?_
  show own_Go p e below _ (T85.setTop (mkF m 28 #[.val (.ref a)] [(.int (1 : Int32))]))
  refine own_st (fun u_ k_ => XS.ifNo X85.here hx rfl (hb hby own_d_jdk_79_35_28) rfl (XT.i0_eq_f (by decide)) k_) ?_
  obtain ⟨T86, h86, X86, e86, E86, A86, D86, U86, st86⟩ := newO X85 hx hZ hown (own_w hw 86 rfl) (own_w hw 90 rfl) (own_w hw 91 rfl) e85 (g := (mkF m 31 #[.val (.ref a)] [])) rfl (hb hby own_d_jdk_79_35_31) (by decide) (by decide)
  obtain ⟨b86, g86⟩ : ∃ z, z = h0.size := ⟨_, rfl⟩
  rw [← g86] at A86 D86 U86 st86
  have F86_c : Fld Z h86 b86 own_c_100 "c" own_c_101 .null := D86 (Or.inr (own_w hw 109 rfl)) (ty := (.object "java/util/Collection")) own_lm_99
  have F86_list : Fld Z h86 b86 own_c_109 "list" "Ljava/util/List;" .null := D86 (Or.inr (own_w hw 111 rfl)) (ty := (.object "java/util/List")) own_lm_104
  refine own_st (fun u_ k_ => st86 u_ k_) ?_
  show own_Go p e below _ (T86.setTop (mkF m 34 #[.val (.ref a)] [(.ref b86)]))
  refine own_st (fun u_ k_ => XS.dup X86.here hx rfl (hb hby own_d_jdk_79_35_34) rfl rfl k_) ?_
  refine own_st (fun u_ k_ => XS.aloadN X86.here hx rfl (hb hby own_d_jdk_79_35_35) rfl rfl k_) ?_
  show own_Go p e below _ (T86.setTop (mkF m 36 #[.val (.ref a)] [(.ref a), (.ref b86), (.ref b86)]))
  have g87 : n0 ≤ b86 := Nat.le_trans (own_nl O0) (Nat.le_of_eq g86.symm)
  have O89 : Old Z n0 h86 := O0.ext E86
  obtain ⟨T88, v88, L88, X88, hQ88, st88⟩ := own_callN X86 hx hZ (y := own_y_127) rfl hown (own_w hw 92 rfl) (own_w hw 93 rfl) (own_w hw 91 rfl) (own_w hw 94 rfl) own_lm_149 (rmUR l Z a0 hw [] w0 w1 w2 w3 wl wle wd mAL mUL mUR mOA wcs kle kd hS b86 a h86 n0 O89 A86 g87 F86_c F86_list) e86 own_pd_125 (a := b86) (argsL := [(.ref a)]) (rest := [(.ref b86)]) rfl rfl (g := (mkF m 36 #[.val (.ref a)] [(.ref a), (.ref b86), (.ref b86)])) rfl (by rw [hml]; rfl) rfl (hb hby own_d_jdk_79_35_36) (W := 1) rfl (by decide) (by decide) (by decide) (by decide)
  obtain ⟨rfl, M88, K88, F90⟩ := hQ88
  have N88 := Fr.app N0 M88
  refine own_st (fun u_ k_ => st88 u_ k_) ?_
  show own_Go p e below _ (T88.setTop (mkF m 39 #[.val (.ref a)] [(.ref b86)]))
  refine own_st (fun u_ k_ => XS.goto X88.here hx rfl (pc0 := 39) (pc' := 50) rfl (hb hby own_d_jdk_79_35_39) (by decide) (by decide) k_) ?_
  have K91 : Keep h0 h86 [] := (Keep.refl h0 []).ext E86
  have z93 : h0.size ≤ b86 := Nat.le_trans (Nat.le_refl _) (Nat.le_of_eq g86.symm)
  have K92 : Keep h0 T88.heap [] := K91.trans K88 (allS (Or.inr z93) all0)
  exact own_retX X88 hx hlk hret rfl (Or.inr (Or.inr (Or.inr (Or.inr ⟨rfl, rfl, rfl⟩)))) (hb hby own_d_jdk_79_35_50) (by decide) (by decide) (show QrmUM Z w0 w1 w2 w3 wl wle wd mAL mUL mUR mOA wcs kle kd a h0 n0 (some (.ref b86)) T88.heap _ from (by exact ⟨b86, rfl, N88, K92, z93, F90⟩))
theorem own_d_jdk_2780_2_0 : decode jdk_2780_method_2_code 0 = .ok (.aload_n 0, 1) := by decide +kernel
theorem own_d_jdk_2780_2_1 : decode jdk_2780_method_2_code 1 = .ok (.aload_n 1, 1) := by decide +kernel
theorem own_d_jdk_2780_2_2 : decode jdk_2780_method_2_code 2 = .ok (.putfield 1, 3) := by decide +kernel
abbrev own_c_157 : String := "java/util/concurrent/CopyOnWriteArrayList"
theorem own_d_jdk_2780_2_5 : decode jdk_2780_method_2_code 5 = .ok (.return_, 1) := by decide +kernel
abbrev own_y_159 : MethodName := ⟨"java/util/concurrent/CopyOnWriteArrayList", "setArray", "([Ljava/lang/Object;)V"⟩
theorem own_pn_160 : plainName "java/util/concurrent/CopyOnWriteArrayList" = true := by first | (simp [plainName, overriddenIn]; done) | decide +kernel
theorem own_ef_rmSA (m : MethodId) (a : Addr) (b : Addr)  : entryFrame m #[(.ref a), (.ref b)] 2 = mkF m 0 #[.val (.ref a), .val (.ref b)] [] := by first | (simp [entryFrame, mkF, argsToLocals, Value.category, maxLocals]; done) | rfl
def QrmSA (Z : State) (w0 w1 w2 w3 wl wle wd mAL mUL mUR mOA : Addr) (wcs : Int32) (kle kd : ClassId) (a : Addr) (b : Addr) (h0 : Heap) (n0 : Nat) (v : Option Value) (h : Heap) (L : List Loc) : Prop := v = none ∧ Fr n0 L ∧ Keep h0 h [a] ∧ Exa Z h a own_c_157 ∧ Fld Z h a own_c_157 "array" "[Ljava/lang/Object;" (.ref b)
set_option maxRecDepth 65536 in
set_option maxHeartbeats 40000000 in
theorem rmSA (l : Launch) (Z : State) (a0 : Array Value) (hw : own_H a0 Z) (ws : List Jvm.Cond) (w0 w1 w2 w3 wl wle wd mAL mUL mUR mOA : Addr) (wcs : Int32) (kle kd : ClassId) (hS : own_S Z w0 w1 w2 w3 wl wle wd mAL mUL mUR mOA wcs kle kd) (a : Addr) (b : Addr) (h0 : Heap) (n0 : Nat) (O0 : Old Z n0 h0) (E : Exa Z h0 a own_c_157) (ga : n0 ≤ a) (F1 : Fld Z h0 a own_c_157 "array" "[Ljava/lang/Object;" .null) :
    own_Met l own_y_159 jdk_2780_method_2_code 2 none ws ({ frames := 0, cells := 0, slots := 0, locals := 0 } : Room) Z h0 #[(.ref a), (.ref b)] (QrmSA Z w0 w1 w2 w3 wl wle wd mAL mUL mUR mOA wcs kle kd a b h0 n0) := by
  refine own_body (plainFor_of_name own_pn_160) ?_
  intro p e s m below meth c s₁ hx hby hml hown hnm hret hlk hZ e0 X0
  have N0 := Fr.nil n0
  refine own_st (fun u_ k_ => castTop (own_ef_rmSA m a b) k_) ?_
  show own_Go p e below _ (s₁.setTop (mkF m 0 #[.val (.ref a), .val (.ref b)] []))
  refine own_st (fun u_ k_ => XS.aloadN X0.here hx rfl (hb hby own_d_jdk_2780_2_0) rfl rfl k_) ?_
  refine own_st (fun u_ k_ => XS.aloadN X0.here hx rfl (hb hby own_d_jdk_2780_2_1) rfl rfl k_) ?_
  show own_Go p e below _ (s₁.setTop (mkF m 2 #[.val (.ref a), .val (.ref b)] [(.ref b), (.ref a)]))
  obtain ⟨T94, h94, X94, e94, W94, st94⟩ := putF X0 hx hZ hown (host := "") (Or.inl (own_w hw 136 rfl)) Via.refl e0 F1 E (Or.inl (own_w hw 137 rfl)) (own_w hw 119 rfl) (ty := (.array (.object "java/lang/Object"))) own_lm_75 rfl rfl (g := (mkF m 2 #[.val (.ref a), .val (.ref b)] [(.ref b), (.ref a)])) rfl rfl (hb hby own_d_jdk_2780_2_2)
  have N94 := Fr.snoc X94 N0 ga
  have F95 : Fld Z h94 a own_c_157 "array" "[Ljava/lang/Object;" (.ref b) := Fld.same W94 F1
  refine own_st (fun u_ k_ => st94 u_ k_) ?_
  show own_Go p e below _ (T94.setTop (mkF m 5 #[.val (.ref a), .val (.ref b)] []))
  have K96 : Keep h0 h94 [a] := (Keep.refl h0 [a]).wr W94 (Or.inl (List.mem_of_getElem? (i := 0) rfl))
  have F97 := (Exa.wr W94 E)
  exact own_retV X94 hx hlk hret (hb hby own_d_jdk_2780_2_5) (by decide) (by decide) (show QrmSA Z w0 w1 w2 w3 wl wle wd mAL mUL mUR mOA wcs kle kd a b h0 n0 none T94.heap _ from (by rw [e94]; exact ⟨rfl, N94, K96, F97, F95⟩))
theorem own_d_jdk_2780_3_0 : decode jdk_2780_method_3_code 0 = .ok (.aload_n 0, 1) := by decide +kernel
theorem own_d_jdk_2780_3_1 : decode jdk_2780_method_3_code 1 = .ok (.invokespecial 7, 3) := by decide +kernel
theorem own_d_jdk_2780_3_4 : decode jdk_2780_method_3_code 4 = .ok (.aload_n 0, 1) := by decide +kernel
theorem own_d_jdk_2780_3_5 : decode jdk_2780_method_3_code 5 = .ok (.new 8, 3) := by decide +kernel
theorem own_d_jdk_2780_3_8 : decode jdk_2780_method_3_code 8 = .ok (.dup, 1) := by decide +kernel
theorem own_d_jdk_2780_3_9 : decode jdk_2780_method_3_code 9 = .ok (.invokespecial 7, 3) := by decide +kernel
theorem own_d_jdk_2780_3_12 : decode jdk_2780_method_3_code 12 = .ok (.putfield 13, 3) := by decide +kernel
theorem own_lm_168 : parseFieldDescriptor "Ljava/lang/Object;" = some (.object "java/lang/Object") := by decide +kernel
theorem own_d_jdk_2780_3_15 : decode jdk_2780_method_3_code 15 = .ok (.aload_n 0, 1) := by decide +kernel
theorem own_d_jdk_2780_3_16 : decode jdk_2780_method_3_code 16 = .ok (.iconst 0, 1) := by decide +kernel
theorem own_d_jdk_2780_3_17 : decode jdk_2780_method_3_code 17 = .ok (.anewarray 8, 3) := by decide +kernel
theorem own_lm_172 : "[" ++ (FieldType.object "java/lang/Object").toString = "[Ljava/lang/Object;" := by decide +kernel
theorem own_d_jdk_2780_3_20 : decode jdk_2780_method_3_code 20 = .ok (.invokevirtual 17, 3) := by decide +kernel
theorem own_lm_174 : ("array" : String) ≠ "lock" := by decide +kernel
def own_sn_175 {Z : State} {a0 : Array Value} (hw : own_H a0 Z) := slot_ne (Or.inl (own_w hw 137 rfl)) (Or.inr (own_w hw 129 rfl)) own_lm_174 (t := (.array (.object "java/lang/Object"))) (t' := (.object "java/lang/Object")) own_lm_75 own_lm_168
theorem own_lm_176 : ("java/util/concurrent/CopyOnWriteArrayList" : String) ≠ "java/lang/invoke/MethodHandle" ∧ ("java/util/concurrent/CopyOnWriteArrayList" : String) ≠ "java/lang/invoke/VarHandle" := by decide +kernel
theorem own_pd_177 : parseMethodDescriptor "([Ljava/lang/Object;)V" = some ⟨[(.array (.object "java/lang/Object"))], none⟩ := by decide +kernel
theorem own_d_jdk_2780_3_23 : decode jdk_2780_method_3_code 23 = .ok (.return_, 1) := by decide +kernel
abbrev own_y_179 : MethodName := ⟨"java/util/concurrent/CopyOnWriteArrayList", "<init>", "()V"⟩
theorem own_ef_rmCW (m : MethodId) (a : Addr)  : entryFrame m #[(.ref a)] 1 = mkF m 0 #[.val (.ref a)] [] := by first | (simp [entryFrame, mkF, argsToLocals, Value.category, maxLocals]; done) | rfl
def QrmCW (Z : State) (w0 w1 w2 w3 wl wle wd mAL mUL mUR mOA : Addr) (wcs : Int32) (kle kd : ClassId) (a : Addr) (h0 : Heap) (n0 : Nat) (v : Option Value) (h : Heap) (L : List Loc) : Prop := ∃ ar : Addr, ∃ kr : ClassId, v = none ∧ Fr n0 L ∧ Keep h0 h [a] ∧ h0.size ≤ ar ∧ Exa Z h a own_c_157 ∧ Fld Z h a own_c_157 "array" "[Ljava/lang/Object;" (.ref ar) ∧ Arv Z h ar kr (.object "java/lang/Object") (0 : Int32) [] .null ∧ Exa Z h ar "[Ljava/lang/Object;"
set_option maxRecDepth 65536 in
set_option maxHeartbeats 40000000 in
theorem rmCW (l : Launch) (Z : State) (a0 : Array Value) (hw : own_H a0 Z) (ws : List Jvm.Cond) (w0 w1 w2 w3 wl wle wd mAL mUL mUR mOA : Addr) (wcs : Int32) (kle kd : ClassId) (hS : own_S Z w0 w1 w2 w3 wl wle wd mAL mUL mUR mOA wcs kle kd) (a : Addr) (h0 : Heap) (n0 : Nat) (O0 : Old Z n0 h0) (E : Exa Z h0 a own_c_157) (ga : n0 ≤ a) (F1 : Fld Z h0 a own_c_157 "array" "[Ljava/lang/Object;" .null) (F2 : Fld Z h0 a own_c_157 "lock" "Ljava/lang/Object;" .null) :
    own_Met l own_y_179 jdk_2780_method_3_code 1 none ws ({ frames := 1, cells := 2, slots := 0, locals := 14 } : Room) Z h0 #[(.ref a)] (QrmCW Z w0 w1 w2 w3 wl wle wd mAL mUL mUR mOA wcs kle kd a h0 n0) := by
  refine own_body (plainFor_of_name own_pn_160) ?_
  intro p e s m below meth c s₁ hx hby hml hown hnm hret hlk hZ e0 X0
  have N0 := Fr.nil n0
  refine own_st (fun u_ k_ => castTop (own_ef_rmCW m a) k_) ?_
  show own_Go p e below _ (s₁.setTop (mkF m 0 #[.val (.ref a)] []))
  refine own_st (fun u_ k_ => XS.aloadN X0.here hx rfl (hb hby own_d_jdk_2780_3_0) rfl rfl k_) ?_
  obtain ⟨T98, X98, e98, st98⟩ := initO X0 hx hZ hown (own_w hw 124 rfl) (own_w hw 20 rfl) (own_w hw 21 rfl) e0 (g := (mkF m 1 #[.val (.ref a)] [(.ref a)])) rfl (by rw [hml]; rfl) rfl (hb hby own_d_jdk_2780_3_1) (by decide) (W := 0) (by show 2 * 0 + _ ≤ _; exact Nat.le_of_eq rfl) (by decide)
  refine own_st (fun u_ k_ => st98 u_ k_) ?_
  show own_Go p e below _ (T98.setTop (mkF m 4 #[.val (.ref a)] []))
  refine own_st (fun u_ k_ => XS.aloadN X98.here hx rfl (hb hby own_d_jdk_2780_3_4) rfl rfl k_) ?_
  obtain ⟨T99, h99, X99, e99, E99, A99, D99, U99, st99⟩ := newO X98 hx hZ hown (own_w hw 125 rfl) (own_w hw 126 rfl) (own_w hw 127 rfl) e98 (g := (mkF m 5 #[.val (.ref a)] [(.ref a)])) rfl (hb hby own_d_jdk_2780_3_5) (by decide) (by decide)
  obtain ⟨b99, g99⟩ : ∃ z, z = h0.size := ⟨_, rfl⟩
  rw [← g99] at A99 D99 U99 st99
  refine own_st (fun u_ k_ => st99 u_ k_) ?_
  show own_Go p e below _ (T99.setTop (mkF m 8 #[.val (.ref a)] [(.ref b99), (.ref a)]))
  refine own_st (fun u_ k_ => XS.dup X99.here hx rfl (hb hby own_d_jdk_2780_3_8) rfl rfl k_) ?_
  obtain ⟨T100, X100, e100, st100⟩ := initO X99 hx hZ hown (own_w hw 124 rfl) (own_w hw 20 rfl) (own_w hw 21 rfl) e99 (g := (mkF m 9 #[.val (.ref a)] [(.ref b99), (.ref b99), (.ref a)])) rfl (by rw [hml]; rfl) rfl (hb hby own_d_jdk_2780_3_9) (by decide) (W := 2) (by show 2 * 0 + _ ≤ _; exact Nat.le_of_eq rfl) (by decide)
  refine own_st (fun u_ k_ => st100 u_ k_) ?_
  show own_Go p e below _ (T100.setTop (mkF m 12 #[.val (.ref a)] [(.ref b99), (.ref a)]))
  have F101 := (Exa.ext E99 E)
  have F102 := (Fld.ext E99 F2)
  obtain ⟨T103, h103, X103, e103, W103, st103⟩ := putF X100 hx hZ hown (host := "") (Or.inl (own_w hw 128 rfl)) Via.refl e100 F102 F101 (Or.inr ⟨(own_w hw 129 rfl), rfl, hnm⟩) (own_w hw 119 rfl) (ty := (.object "java/lang/Object")) own_lm_168 rfl rfl (g := (mkF m 12 #[.val (.ref a)] [(.ref b99), (.ref a)])) rfl rfl (hb hby own_d_jdk_2780_3_12)
  have N103 := Fr.snoc X103 N0 ga
  have F104 : Fld Z h103 a own_c_157 "lock" "Ljava/lang/Object;" (.ref b99) := Fld.same W103 F102
  refine own_st (fun u_ k_ => st103 u_ k_) ?_
  show own_Go p e below _ (T103.setTop (mkF m 15 #[.val (.ref a)] []))
  refine own_st (fun u_ k_ => XS.aloadN X103.here hx rfl (hb hby own_d_jdk_2780_3_15) rfl rfl k_) ?_
  refine own_st (fun u_ k_ => XS.iconst X103.here hx rfl (hb hby own_d_jdk_2780_3_16) k_) ?_
  show own_Go p e below _ (T103.setTop (mkF m 17 #[.val (.ref a)] [(.int (0 : Int32)), (.ref a)]))
  obtain ⟨T105, h105, k105, X105, e105, E105, A105, Y105, O105, st105⟩ := newRE X103 hx hZ hown (own_w hw 125 rfl) (own_w hw 130 rfl) e103 (g := (mkF m 17 #[.val (.ref a)] [(.int (0 : Int32)), (.ref a)])) rfl (hb hby own_d_jdk_2780_3_17) rfl (by decide) (cap := 0) (by decide) (by decide) (by decide) (by decide) (ad := "[Ljava/lang/Object;") own_lm_172
  obtain ⟨b105, g105⟩ : ∃ z, z = h103.size := ⟨_, rfl⟩
  rw [← g105] at A105 Y105 st105
  have V105 : Arv Z h105 b105 k105 (.object "java/lang/Object") (0 : Int32) [] .null := (Arv.new A105 (by decide)).pad (pad_rep [] .null 0)
  refine own_st (fun u_ k_ => st105 u_ k_) ?_
  show own_Go p e below _ (T105.setTop (mkF m 20 #[.val (.ref a)] [(.ref b105), (.ref a)]))
  have F106 := (Exa.ext E105 (Exa.wr W103 F101))
  have F107 := (Fld.ext E105 (Fld.other W103 (Fld.ext E99 F1) (Or.inr (own_sn_175 hw))))
  have O109 : Old Z n0 h99 := O0.ext E99
  have O110 : Old Z n0 h103 := O109.wr W103 ga
  have O111 : Old Z n0 h105 := O110.ext E105
  obtain ⟨T108, v108, L108, X108, hQ108, st108⟩ := own_callV X105 hx hZ (y := own_y_159) (z := own_y_159) hown (own_w hw 131 rfl) (own_w hw 132 rfl) (notFace_of_selects (args := #[]) (mvT hZ (own_w hw 134 rfl))) (own_w hw 134 rfl) (own_w hw 133 rfl) (own_w hw 120 rfl) (own_w hw 135 rfl) own_lm_176 (rmSA l Z a0 hw [] w0 w1 w2 w3 wl wle wd mAL mUL mUR mOA wcs kle kd hS a b105 h105 n0 O111 F106 ga F107) e105 F106 own_pd_177 (argsL := [(.ref b105)]) (rest := []) rfl rfl (g := (mkF m 20 #[.val (.ref a)] [(.ref b105), (.ref a)])) rfl (by rw [hml]; rfl) rfl (hb hby own_d_jdk_2780_3_20) (W := 0) rfl (by decide) (by decide) (by decide) (by decide)
  obtain ⟨rfl, M108, K108, F112, F113⟩ := hQ108
  have N108 := Fr.app N103 M108
  refine own_st (fun u_ k_ => st108 u_ k_) ?_
  show own_Go p e below _ (T108.setTop (mkF m 23 #[.val (.ref a)] []))
  have K114 : Keep h0 h99 [a] := (Keep.refl h0 [a]).ext E99
  have K115 : Keep h0 h103 [a] := K114.wr W103 (Or.inl (List.mem_of_getElem? (i := 0) rfl))
  have K116 : Keep h0 h105 [a] := K115.ext E105
  have K117 : Keep h0 T108.heap [a] := K116.trans K108 (allS (Or.inl (List.mem_of_getElem? (i := 0) rfl)) all0)
  have z118 : h0.size ≤ b105 := Nat.le_trans (Nat.le_trans E99.1 (Nat.le_of_eq W103.size.symm)) (Nat.le_of_eq g105.symm)
  have ne119 : b105 ≠ a := (Ne.symm (Nat.ne_of_lt (Nat.lt_of_lt_of_le F104.lt (Nat.le_of_eq g105.symm))))
  have F120 := (V105.keep K108 (ninS ne119 nin0))
  have F121 := (Y105.keep K108)
  exact own_retV X108 hx hlk hret (hb hby own_d_jdk_2780_3_23) (by decide) (by decide) (show QrmCW Z w0 w1 w2 w3 wl wle wd mAL mUL mUR mOA wcs kle kd a h0 n0 none T108.heap _ from (by exact ⟨b105, k105, rfl, N108, K117, z118, F112, F113, F120, F121⟩))
theorem own_d_jdk_2780_1_0 : decode jdk_2780_method_1_code 0 = .ok (.aload_n 0, 1) := by decide +kernel
theorem own_d_jdk_2780_1_1 : decode jdk_2780_method_1_code 1 = .ok (.getfield 1, 3) := by decide +kernel
theorem own_d_jdk_2780_1_4 : decode jdk_2780_method_1_code 4 = .ok (.areturn, 1) := by decide +kernel
abbrev own_y_183 : MethodName := ⟨"java/util/concurrent/CopyOnWriteArrayList", "getArray", "()[Ljava/lang/Object;"⟩
theorem own_ef_rmGA (m : MethodId) (a : Addr)  : entryFrame m #[(.ref a)] 1 = mkF m 0 #[.val (.ref a)] [] := by first | (simp [entryFrame, mkF, argsToLocals, Value.category, maxLocals]; done) | rfl
def QrmGA (Z : State) (w0 w1 w2 w3 wl wle wd mAL mUL mUR mOA : Addr) (wcs : Int32) (kle kd : ClassId) (a : Addr) (b : Addr) (h0 : Heap) (n0 : Nat) (v : Option Value) (h : Heap) (L : List Loc) : Prop := v = some (.ref b) ∧ Fr n0 L ∧ h = h0
set_option maxRecDepth 65536 in
set_option maxHeartbeats 40000000 in
theorem rmGA (l : Launch) (Z : State) (a0 : Array Value) (hw : own_H a0 Z) (ws : List Jvm.Cond) (w0 w1 w2 w3 wl wle wd mAL mUL mUR mOA : Addr) (wcs : Int32) (kle kd : ClassId) (hS : own_S Z w0 w1 w2 w3 wl wle wd mAL mUL mUR mOA wcs kle kd) (a : Addr) (b : Addr) (h0 : Heap) (n0 : Nat) (O0 : Old Z n0 h0) (F1 : Fld Z h0 a own_c_157 "array" "[Ljava/lang/Object;" (.ref b)) :
    own_Met l own_y_183 jdk_2780_method_1_code 1 (some (.array (.object "java/lang/Object"))) ws ({ frames := 0, cells := 0, slots := 0, locals := 0 } : Room) Z h0 #[(.ref a)] (QrmGA Z w0 w1 w2 w3 wl wle wd mAL mUL mUR mOA wcs kle kd a b h0 n0) := by
  refine own_body (plainFor_of_name own_pn_160) ?_
  intro p e s m below meth c s₁ hx hby hml hown hnm hret hlk hZ e0 X0
  have N0 := Fr.nil n0
  refine own_st (fun u_ k_ => castTop (own_ef_rmGA m a) k_) ?_
  show own_Go p e below _ (s₁.setTop (mkF m 0 #[.val (.ref a)] []))
  refine own_st (fun u_ k_ => XS.aloadN X0.here hx rfl (hb hby own_d_jdk_2780_1_0) rfl rfl k_) ?_
  obtain ⟨T122, X122, e122, st122⟩ := getF X0 hx hZ hown (host := "") (Or.inl (own_w hw 136 rfl)) Via.refl e0 F1 (g := (mkF m 1 #[.val (.ref a)] [(.ref a)])) rfl rfl (hb hby own_d_jdk_2780_1_1)
  refine own_st (fun u_ k_ => st122 u_ k_) ?_
  show own_Go p e below _ (T122.setTop (mkF m 4 #[.val (.ref a)] [(.ref b)]))
  exact own_retX X122 hx hlk hret rfl (Or.inr (Or.inr (Or.inr (Or.inr ⟨rfl, rfl, rfl⟩)))) (hb hby own_d_jdk_2780_1_4) (by decide) (by decide) (show QrmGA Z w0 w1 w2 w3 wl wle wd mAL mUL mUR mOA wcs kle kd a b h0 n0 (some (.ref b)) T122.heap _ from (by rw [e122]; exact ⟨rfl, N0, rfl⟩))
theorem own_d_jdk_2781_1_0 : decode jdk_2781_method_1_code 0 = .ok (.aload_n 0, 1) := by decide +kernel
theorem own_d_jdk_2781_1_1 : decode jdk_2781_method_1_code 1 = .ok (.invokespecial 1, 3) := by decide +kernel
theorem own_d_jdk_2781_1_4 : decode jdk_2781_method_1_code 4 = .ok (.aload_n 0, 1) := by decide +kernel
theorem own_d_jdk_2781_1_5 : decode jdk_2781_method_1_code 5 = .ok (.iload_n 2, 1) := by decide +kernel
theorem own_d_jdk_2781_1_6 : decode jdk_2781_method_1_code 6 = .ok (.putfield 7, 3) := by decide +kernel
abbrev own_c_189 : String := "java/util/concurrent/CopyOnWriteArrayList$COWIterator"
theorem own_d_jdk_2781_1_9 : decode jdk_2781_method_1_code 9 = .ok (.aload_n 0, 1) := by decide +kernel
theorem own_d_jdk_2781_1_10 : decode jdk_2781_method_1_code 10 = .ok (.aload_n 1, 1) := by decide +kernel
theorem own_d_jdk_2781_1_11 : decode jdk_2781_method_1_code 11 = .ok (.putfield 13, 3) := by decide +kernel
theorem own_lm_193 : ("snapshot" : String) ≠ "cursor" := by decide +kernel
def own_sn_194 {Z : State} {a0 : Array Value} (hw : own_H a0 Z) := slot_ne (Or.inr (own_w hw 196 rfl)) (Or.inl (own_w hw 194 rfl)) own_lm_193 (t := (.array (.object "java/lang/Object"))) (t' := .int) own_lm_75 own_lm_69
theorem own_d_jdk_2781_1_14 : decode jdk_2781_method_1_code 14 = .ok (.return_, 1) := by decide +kernel
theorem own_lm_196 : ("cursor" : String) ≠ "snapshot" := by decide +kernel
def own_sn_197 {Z : State} {a0 : Array Value} (hw : own_H a0 Z) := slot_ne (Or.inl (own_w hw 194 rfl)) (Or.inr (own_w hw 196 rfl)) own_lm_196 (t := .int) (t' := (.array (.object "java/lang/Object"))) own_lm_69 own_lm_75
abbrev own_y_198 : MethodName := ⟨"java/util/concurrent/CopyOnWriteArrayList$COWIterator", "<init>", "([Ljava/lang/Object;I)V"⟩
theorem own_pn_199 : plainName "java/util/concurrent/CopyOnWriteArrayList$COWIterator" = true := by first | (simp [plainName, overriddenIn]; done) | decide +kernel
theorem own_ef_rmCI (m : MethodId) (a : Addr) (b : Addr)  : entryFrame m #[(.ref a), (.ref b), (.int (0 : Int32))] 3 = mkF m 0 #[.val (.ref a), .val (.ref b), .val (.int (0 : Int32))] [] := by first | (simp [entryFrame, mkF, argsToLocals, Value.category, maxLocals]; done) | rfl
def QrmCI (Z : State) (w0 w1 w2 w3 wl wle wd mAL mUL mUR mOA : Addr) (wcs : Int32) (kle kd : ClassId) (a : Addr) (b : Addr) (h0 : Heap) (n0 : Nat) (v : Option Value) (h : Heap) (L : List Loc) : Prop := v = none ∧ Fr n0 L ∧ Keep h0 h [a] ∧ Exa Z h a own_c_189 ∧ Fld Z h a own_c_189 "cursor" "I" (.int (0 : Int32)) ∧ Fld Z h a own_c_189 "snapshot" "[Ljava/lang/Object;" (.ref b)
set_option maxRecDepth 65536 in
set_option maxHeartbeats 40000000 in
theorem rmCI (l : Launch) (Z : State) (a0 : Array Value) (hw : own_H a0 Z) (ws : List Jvm.Cond) (w0 w1 w2 w3 wl wle wd mAL mUL mUR mOA : Addr) (wcs : Int32) (kle kd : ClassId) (hS : own_S Z w0 w1 w2 w3 wl wle wd mAL mUL mUR mOA wcs kle kd) (a : Addr) (b : Addr) (h0 : Heap) (n0 : Nat) (O0 : Old Z n0 h0) (E : Exa Z h0 a own_c_189) (ga : n0 ≤ a) (F1 : Fld Z h0 a own_c_189 "cursor" "I" (.int (0 : Int32))) (F2 : Fld Z h0 a own_c_189 "snapshot" "[Ljava/lang/Object;" .null) :
    own_Met l own_y_198 jdk_2781_method_1_code 3 none ws ({ frames := 1, cells := 0, slots := 0, locals := 12 } : Room) Z h0 #[(.ref a), (.ref b), (.int (0 : Int32))] (QrmCI Z w0 w1 w2 w3 wl wle wd mAL mUL mUR mOA wcs kle kd a b h0 n0) := by
  refine own_body (plainFor_of_name own_pn_199) ?_
  intro p e s m below meth c s₁ hx hby hml hown hnm hret hlk hZ e0 X0
  have N0 := Fr.nil n0
  refine own_st (fun u_ k_ => castTop (own_ef_rmCI m a b) k_) ?_
  show own_Go p e below _ (s₁.setTop (mkF m 0 #[.val (.ref a), .val (.ref b), .val (.int (0 : Int32))] []))
  refine own_st (fun u_ k_ => XS.aloadN X0.here hx rfl (hb hby own_d_jdk_2781_1_0) rfl rfl k_) ?_
  obtain ⟨T123, X123, e123, st123⟩ := initO X0 hx hZ hown (own_w hw 192 rfl) (own_w hw 20 rfl) (own_w hw 21 rfl) e0 (g := (mkF m 1 #[.val (.ref a), .val (.ref b), .val (.int (0 : Int32))] [(.ref a)])) rfl (by rw [hml]; rfl) rfl (hb hby own_d_jdk_2781_1_1) (by decide) (W := 0) (by show 2 * 0 + _ ≤ _; exact Nat.le_of_eq rfl) (by decide)
  refine own_st (fun u_ k_ => st123 u_ k_) ?_
  show own_Go p e below _ (T123.setTop (mkF m 4 #[.val (.ref a), .val (.ref b), .val (.int (0 : Int32))] []))
  refine own_st (fun u_ k_ => XS.aloadN X123.here hx rfl (hb hby own_d_jdk_2781_1_4) rfl rfl k_) ?_
  refine own_st (fun u_ k_ => XS.iloadN X123.here hx rfl (hb hby own_d_jdk_2781_1_5) rfl k_) ?_
  show own_Go p e below _ (T123.setTop (mkF m 6 #[.val (.ref a), .val (.ref b), .val (.int (0 : Int32))] [(.int (0 : Int32)), (.ref a)]))
  obtain ⟨T124, h124, X124, e124, W124, st124⟩ := putF X123 hx hZ hown (host := "") (Or.inl (own_w hw 193 rfl)) Via.refl e123 F1 E (Or.inl (own_w hw 194 rfl)) (own_w hw 181 rfl) (ty := .int) own_lm_69 rfl rfl (g := (mkF m 6 #[.val (.ref a), .val (.ref b), .val (.int (0 : Int32))] [(.int (0 : Int32)), (.ref a)])) rfl rfl (hb hby own_d_jdk_2781_1_6)
  have N124 := Fr.snoc X124 N0 ga
  have F125 : Fld Z h124 a own_c_189 "cursor" "I" (.int (0 : Int32)) := Fld.same W124 F1
  refine own_st (fun u_ k_ => st124 u_ k_) ?_
  show own_Go p e below _ (T124.setTop (mkF m 9 #[.val (.ref a), .val (.ref b), .val (.int (0 : Int32))] []))
  refine own_st (fun u_ k_ => XS.aloadN X124.here hx rfl (hb hby own_d_jdk_2781_1_9) rfl rfl k_) ?_
  refine own_st (fun u_ k_ => XS.aloadN X124.here hx rfl (hb hby own_d_jdk_2781_1_10) rfl rfl k_) ?_
  show own_Go p e below _ (T124.setTop (mkF m 11 #[.val (.ref a), .val (.ref b), .val (.int (0 : Int32))] [(.ref b), (.ref a)]))
  have F126 := (Exa.wr W124 E)
  have F127 := (Fld.other W124 F2 (Or.inr (own_sn_194 hw)))
  obtain ⟨T128, h128, X128, e128, W128, st128⟩ := putF X124 hx hZ hown (host := "") (Or.inl (own_w hw 195 rfl)) Via.refl e124 F127 F126 (Or.inr ⟨(own_w hw 196 rfl), rfl, hnm⟩) (own_w hw 181 rfl) (ty := (.array (.object "java/lang/Object"))) own_lm_75 rfl rfl (g := (mkF m 11 #[.val (.ref a), .val (.ref b), .val (.int (0 : Int32))] [(.ref b), (.ref a)])) rfl rfl (hb hby own_d_jdk_2781_1_11)
  have N128 := Fr.snoc X128 N124 ga
  have F129 : Fld Z h128 a own_c_189 "snapshot" "[Ljava/lang/Object;" (.ref b) := Fld.same W128 F127
  refine own_st (fun u_ k_ => st128 u_ k_) ?_
  show own_Go p e below _ (T128.setTop (mkF m 14 #[.val (.ref a), .val (.ref b), .val (.int (0 : Int32))] []))
  have K130 : Keep h0 h124 [a] := (Keep.refl h0 [a]).wr W124 (Or.inl (List.mem_of_getElem? (i := 0) rfl))
  have K131 : Keep h0 h128 [a] := K130.wr W128 (Or.inl (List.mem_of_getElem? (i := 0) rfl))
  have F132 := (Exa.wr W128 F126)
  have F133 := (Fld.other W128 F125 (Or.inr (own_sn_197 hw)))
  exact own_retV X128 hx hlk hret (hb hby own_d_jdk_2781_1_14) (by decide) (by decide) (show QrmCI Z w0 w1 w2 w3 wl wle wd mAL mUL mUR mOA wcs kle kd a b h0 n0 none T128.heap _ from (by rw [e128]; exact ⟨rfl, N128, K131, F132, F133, F129⟩))
theorem own_d_jdk_2780_60_0 : decode jdk_2780_method_60_code 0 = .ok (.new 275, 3) := by decide +kernel
theorem own_d_jdk_2780_60_3 : decode jdk_2780_method_60_code 3 = .ok (.dup, 1) := by decide +kernel
theorem own_d_jdk_2780_60_4 : decode jdk_2780_method_60_code 4 = .ok (.aload_n 0, 1) := by decide +kernel
theorem own_d_jdk_2780_60_5 : decode jdk_2780_method_60_code 5 = .ok (.invokevirtual 27, 3) := by decide +kernel
theorem own_pd_204 : parseMethodDescriptor "()[Ljava/lang/Object;" = some ⟨[], some (.array (.object "java/lang/Object"))⟩ := by decide +kernel
theorem own_d_jdk_2780_60_8 : decode jdk_2780_method_60_code 8 = .ok (.iconst 0, 1) := by decide +kernel
theorem own_d_jdk_2780_60_9 : decode jdk_2780_method_60_code 9 = .ok (.invokespecial 277, 3) := by decide +kernel
theorem own_lm_207 : ("java/util/concurrent/CopyOnWriteArrayList$COWIterator" : String) ≠ "java/lang/invoke/MethodHandle" ∧ ("java/util/concurrent/CopyOnWriteArrayList$COWIterator" : String) ≠ "java/lang/invoke/VarHandle" := by decide +kernel
theorem own_pd_208 : parseMethodDescriptor "([Ljava/lang/Object;I)V" = some ⟨[(.array (.object "java/lang/Object")), .int], none⟩ := by decide +kernel
theorem own_d_jdk_2780_60_12 : decode jdk_2780_method_60_code 12 = .ok (.areturn, 1) := by decide +kernel
abbrev own_y_210 : MethodName := ⟨"java/util/concurrent/CopyOnWriteArrayList", "iterator", "()Ljava/util/Iterator;"⟩
theorem own_ef_rmIT (m : MethodId) (a : Addr)  : entryFrame m #[(.ref a)] 1 = mkF m 0 #[.val (.ref a)] [] := by first | (simp [entryFrame, mkF, argsToLocals, Value.category, maxLocals]; done) | rfl
def QrmIT (Z : State) (w0 w1 w2 w3 wl wle wd mAL mUL mUR mOA : Addr) (wcs : Int32) (kle kd : ClassId) (a : Addr) (b : Addr) (h0 : Heap) (n0 : Nat) (v : Option Value) (h : Heap) (L : List Loc) : Prop := ∃ r : Addr, v = some (.ref r) ∧ Fr n0 L ∧ Keep h0 h [] ∧ h0.size ≤ r ∧ Exa Z h r own_c_189 ∧ Fld Z h r own_c_189 "cursor" "I" (.int (0 : Int32)) ∧ Fld Z h r own_c_189 "snapshot" "[Ljava/lang/Object;" (.ref b)
set_option maxRecDepth 65536 in
set_option maxHeartbeats 40000000 in
theorem rmIT (l : Launch) (Z : State) (a0 : Array Value) (hw : own_H a0 Z) (ws : List Jvm.Cond) (w0 w1 w2 w3 wl wle wd mAL mUL mUR mOA : Addr) (wcs : Int32) (kle kd : ClassId) (hS : own_S Z w0 w1 w2 w3 wl wle wd mAL mUL mUR mOA wcs kle kd) (a : Addr) (b : Addr) (h0 : Heap) (n0 : Nat) (O0 : Old Z n0 h0) (E : Exa Z h0 a own_c_157) (F1 : Fld Z h0 a own_c_157 "array" "[Ljava/lang/Object;" (.ref b)) :
    own_Met l own_y_210 jdk_2780_method_60_code 1 (some (.object "java/util/Iterator")) ws ({ frames := 2, cells := 1, slots := 2, locals := 27 } : Room) Z h0 #[(.ref a)] (QrmIT Z w0 w1 w2 w3 wl wle wd mAL mUL mUR mOA wcs kle kd a b h0 n0) := by
  refine own_body (plainFor_of_name own_pn_160) ?_
  intro p e s m below meth c s₁ hx hby hml hown hnm hret hlk hZ e0 X0
  have N0 := Fr.nil n0
  refine own_st (fun u_ k_ => castTop (own_ef_rmIT m a) k_) ?_
  show own_Go p e below _ (s₁.setTop (mkF m 0 #[.val (.ref a)] []))
  obtain ⟨T134, h134, X134, e134, E134, A134, D134, U134, st134⟩ := newO X0 hx hZ hown (own_w hw 180 rfl) (own_w hw 181 rfl) (own_w hw 182 rfl) e0 (g := (mkF m 0 #[.val (.ref a)] [])) rfl (hb hby own_d_jdk_2780_60_0) (by decide) (by decide)
  obtain ⟨b134, g134⟩ : ∃ z, z = h0.size := ⟨_, rfl⟩
  rw [← g134] at A134 D134 U134 st134
  have F134_cursor : Fld Z h134 b134 own_c_189 "cursor" "I" (.int (0 : Int32)) := D134 (Or.inl (own_w hw 194 rfl)) (ty := .int) own_lm_69
  have F134_snapshot : Fld Z h134 b134 own_c_189 "snapshot" "[Ljava/lang/Object;" .null := D134 (Or.inr (own_w hw 196 rfl)) (ty := (.array (.object "java/lang/Object"))) own_lm_75
  refine own_st (fun u_ k_ => st134 u_ k_) ?_
  show own_Go p e below _ (T134.setTop (mkF m 3 #[.val (.ref a)] [(.ref b134)]))
  refine own_st (fun u_ k_ => XS.dup X134.here hx rfl (hb hby own_d_jdk_2780_60_3) rfl rfl k_) ?_
  refine own_st (fun u_ k_ => XS.aloadN X134.here hx rfl (hb hby own_d_jdk_2780_60_4) rfl rfl k_) ?_
  show own_Go p e below _ (T134.setTop (mkF m 5 #[.val (.ref a)] [(.ref a), (.ref b134), (.ref b134)]))
  have F135 := (Fld.ext E134 F1)
  have O137 : Old Z n0 h134 := O0.ext E134
  have F138 := (Exa.ext E134 E)
  obtain ⟨T136, v136, L136, X136, hQ136, st136⟩ := own_callV X134 hx hZ (y := own_y_183) (z := own_y_183) hown (own_w hw 183 rfl) (own_w hw 184 rfl) (notFace_of_selects (args := #[]) (mvT hZ (own_w hw 186 rfl))) (own_w hw 186 rfl) (own_w hw 185 rfl) (own_w hw 120 rfl) (own_w hw 187 rfl) own_lm_176 (rmGA l Z a0 hw [] w0 w1 w2 w3 wl wle wd mAL mUL mUR mOA wcs kle kd hS a b h134 n0 O137 F135) e134 F138 own_pd_204 (argsL := []) (rest := [(.ref b134), (.ref b134)]) rfl rfl (g := (mkF m 5 #[.val (.ref a)] [(.ref a), (.ref b134), (.ref b134)])) rfl (by rw [hml]; rfl) rfl (hb hby own_d_jdk_2780_60_5) (W := 2) rfl (by decide) (by decide) (by decide) (by decide)
  obtain ⟨rfl, M136, e136⟩ := hQ136
  have N136 := Fr.app N0 M136
  refine own_st (fun u_ k_ => st136 u_ k_) ?_
  show own_Go p e below _ (T136.setTop (mkF m 8 #[.val (.ref a)] [(.ref b), (.ref b134), (.ref b134)]))
  refine own_st (fun u_ k_ => XS.iconst X136.here hx rfl (hb hby own_d_jdk_2780_60_8) k_) ?_
  have g139 : n0 ≤ b134 := Nat.le_trans (own_nl O0) (Nat.le_of_eq g134.symm)
  obtain ⟨T140, v140, L140, X140, hQ140, st140⟩ := own_callN X136 hx hZ (y := own_y_198) rfl hown (own_w hw 188 rfl) (own_w hw 189 rfl) (own_w hw 182 rfl) (own_w hw 191 rfl) own_lm_207 (rmCI l Z a0 hw [] w0 w1 w2 w3 wl wle wd mAL mUL mUR mOA wcs kle kd hS b134 b h134 n0 O137 A134 g139 F134_cursor F134_snapshot) e136 own_pd_208 (a := b134) (argsL := [(.ref b), (.int (0 : Int32))]) (rest := [(.ref b134)]) rfl rfl (g := (mkF m 9 #[.val (.ref a)] [(.int (0 : Int32)), (.ref b), (.ref b134), (.ref b134)])) rfl (by rw [hml]; rfl) rfl (hb hby own_d_jdk_2780_60_9) (W := 1) rfl (by decide) (by decide) (by decide) (by decide)
  obtain ⟨rfl, M140, K140, F141, F142, F143⟩ := hQ140
  have N140 := Fr.app N136 M140
  refine own_st (fun u_ k_ => st140 u_ k_) ?_
  show own_Go p e below _ (T140.setTop (mkF m 12 #[.val (.ref a)] [(.ref b134)]))
  have K144 : Keep h0 h134 [] := (Keep.refl h0 []).ext E134
  have z146 : h0.size ≤ b134 := Nat.le_trans (Nat.le_refl _) (Nat.le_of_eq g134.symm)
  have K145 : Keep h0 T140.heap [] := K144.trans K140 (allS (Or.inr z146) all0)
  exact own_retX X140 hx hlk hret rfl (Or.inr (Or.inr (Or.inr (Or.inr ⟨rfl, rfl, rfl⟩)))) (hb hby own_d_jdk_2780_60_12) (by decide) (by decide) (show QrmIT Z w0 w1 w2 w3 wl wle wd mAL mUL mUR mOA wcs kle kd a b h0 n0 (some (.ref b134)) T140.heap _ from (by exact ⟨b134, rfl, N140, K145, z146, F141, F142, F143⟩))
theorem own_d_jdk_2781_2_0 : decode jdk_2781_method_2_code 0 = .ok (.aload_n 0, 1) := by decide +kernel
theorem own_d_jdk_2781_2_1 : decode jdk_2781_method_2_code 1 = .ok (.getfield 7, 3) := by decide +kernel
theorem own_d_jdk_2781_2_4 : decode jdk_2781_method_2_code 4 = .ok (.aload_n 0, 1) := by decide +kernel
theorem own_d_jdk_2781_2_5 : decode jdk_2781_method_2_code 5 = .ok (.getfield 13, 3) := by decide +kernel
theorem own_d_jdk_2781_2_8 : decode jdk_2781_method_2_code 8 = .ok (.arraylength, 1) := by decide +kernel
theorem own_d_jdk_2781_2_9 : decode jdk_2781_method_2_code 9 = .ok (.if_icmp .ge 7, 3) := by decide +kernel
theorem own_d_jdk_2781_2_16 : decode jdk_2781_method_2_code 16 = .ok (.iconst 0, 1) := by decide +kernel
theorem own_d_jdk_2781_2_17 : decode jdk_2781_method_2_code 17 = .ok (.ireturn, 1) := by decide +kernel
abbrev own_y_219 : MethodName := ⟨"java/util/concurrent/CopyOnWriteArrayList$COWIterator", "hasNext", "()Z"⟩
theorem own_ef_rmHN (m : MethodId) (a : Addr)  : entryFrame m #[(.ref a)] 1 = mkF m 0 #[.val (.ref a)] [] := by first | (simp [entryFrame, mkF, argsToLocals, Value.category, maxLocals]; done) | rfl
def QrmHN (Z : State) (w0 w1 w2 w3 wl wle wd mAL mUL mUR mOA : Addr) (wcs : Int32) (kle kd : ClassId) (a : Addr) (b : Addr) (kb : ClassId) (h0 : Heap) (n0 : Nat) (v : Option Value) (h : Heap) (L : List Loc) : Prop := v = some (.int (0 : Int32)) ∧ Fr n0 L ∧ h = h0
set_option maxRecDepth 65536 in
set_option maxHeartbeats 40000000 in
theorem rmHN (l : Launch) (Z : State) (a0 : Array Value) (hw : own_H a0 Z) (ws : List Jvm.Cond) (w0 w1 w2 w3 wl wle wd mAL mUL mUR mOA : Addr) (wcs : Int32) (kle kd : ClassId) (hS : own_S Z w0 w1 w2 w3 wl wle wd mAL mUL mUR mOA wcs kle kd) (a : Addr) (b : Addr) (kb : ClassId) (h0 : Heap) (n0 : Nat) (O0 : Old Z n0 h0) (F1 : Fld Z h0 a own_c_189 "cursor" "I" (.int (0 : Int32))) (F2 : Fld Z h0 a own_c_189 "snapshot" "[Ljava/lang/Object;" (.ref b)) (V : Arv Z h0 b kb (.object "java/lang/Object") (0 : Int32) [] .null) :
    own_Met l own_y_219 jdk_2781_method_2_code 1 (some .boolean) ws ({ frames := 0, cells := 0, slots := 0, locals := 0 } : Room) Z h0 #[(.ref a)] (QrmHN Z w0 w1 w2 w3 wl wle wd mAL mUL mUR mOA wcs kle kd a b kb h0 n0) := by
  refine own_body (plainFor_of_name own_pn_199) ?_
  intro p e s m below meth c s₁ hx hby hml hown hnm hret hlk hZ e0 X0
  have N0 := Fr.nil n0
  refine own_st (fun u_ k_ => castTop (own_ef_rmHN m a) k_) ?_
  show own_Go p e below _ (s₁.setTop (mkF m 0 #[.val (.ref a)] []))
  refine own_st (fun u_ k_ => XS.aloadN X0.here hx rfl (hb hby own_d_jdk_2781_2_0) rfl rfl k_) ?_
  obtain ⟨T147, X147, e147, st147⟩ := getF X0 hx hZ hown (host := "") (Or.inl (own_w hw 193 rfl)) Via.refl e0 F1 (g := (mkF m 1 #[.val (.ref a)] [(.ref a)])) rfl rfl (hb hby own_d_jdk_2781_2_1)
  refine own_st (fun u_ k_ => st147 u_ k_) ?_
  show own_Go p e below _ (T147.setTop (mkF m 4 #[.val (.ref a)] [(.int (0 : Int32))]))
  refine own_st (fun u_ k_ => XS.aloadN X147.here hx rfl (hb hby own_d_jdk_2781_2_4) rfl rfl k_) ?_
  obtain ⟨T148, X148, e148, st148⟩ := getF X147 hx hZ hown (host := "") (Or.inl (own_w hw 195 rfl)) Via.refl e147 F2 (g := (mkF m 5 #[.val (.ref a)] [(.ref a), (.int (0 : Int32))])) rfl rfl (hb hby own_d_jdk_2781_2_5)
  refine own_st (fun u_ k_ => st148 u_ k_) ?_
  show own_Go p e below _ (T148.setTop (mkF m 8 #[.val (.ref a)] [(.ref b), (.int (0 : Int32))]))
  obtain ⟨cl149, Ar149, -, S149, N149, -, -⟩ := id V
  refine own_st (X148.arraylength hx (by rw [e148]; exact Ar149.1) (State.isArrayOf_alike hZ.alike Ar149.2.1) (g := (mkF m 8 #[.val (.ref a)] [(.ref b), (.int (0 : Int32))])) rfl rfl (hb hby own_d_jdk_2781_2_8)) ?_
  rw [len_of S149 N149]
  show own_Go p e below _ (T148.setTop (mkF m 9 #[.val (.ref a)] [(.int (0 : Int32)), (.int (0 : Int32))]))
  refine own_st (fun u_ k_ => XS.icmpYes X148.here hx rfl (pc0 := 9) (pc' := 16) rfl (hb hby own_d_jdk_2781_2_9) rfl (XT.ii_ge_t (by decide)) (by decide) (by decide) k_) ?_
  refine own_st (fun u_ k_ => XS.iconst X148.here hx rfl (hb hby own_d_jdk_2781_2_16) k_) ?_
  show own_Go p e below _ (T148.setTop (mkF m 17 #[.val (.ref a)] [(.int (0 : Int32))]))
  exact own_retX X148 hx hlk hret rfl (Or.inl ⟨rfl, by simp, _, rfl⟩) (hb hby own_d_jdk_2781_2_17) (by decide) (by decide) (show QrmHN Z w0 w1 w2 w3 wl wle wd mAL mUL mUR mOA wcs kle kd a b kb h0 n0 (some (.int (0 : Int32))) T148.heap _ from (by rw [e148]; exact ⟨rfl, N0, rfl⟩))
theorem own_d_prog_17_43_0 : decode prog_17_method_43_code 0 = .ok (.aload_n 0, 1) := by decide +kernel
theorem own_d_prog_17_43_1 : decode prog_17_method_43_code 1 = .ok (.getfield 46, 3) := by decide +kernel
theorem own_d_prog_17_43_4 : decode prog_17_method_43_code 4 = .ok (.invokeinterface 235 1, 5) := by decide +kernel
abbrev own_y_223 : MethodName := ⟨"java/util/List", "iterator", "()Ljava/util/Iterator;"⟩
theorem own_pd_224 : parseMethodDescriptor "()Ljava/util/Iterator;" = some ⟨[], some (.object "java/util/Iterator")⟩ := by decide +kernel
theorem own_d_prog_17_43_9 : decode prog_17_method_43_code 9 = .ok (.astore_n 1, 1) := by decide +kernel
theorem own_d_prog_17_43_10 : decode prog_17_method_43_code 10 = .ok (.aload_n 1, 1) := by decide +kernel
theorem own_d_prog_17_43_11 : decode prog_17_method_43_code 11 = .ok (.invokeinterface 239 1, 5) := by decide +kernel
abbrev own_y_228 : MethodName := ⟨"java/util/Iterator", "hasNext", "()Z"⟩
theorem own_lm_229 : ("java/util/Iterator" : String) ≠ "java/lang/invoke/MethodHandle" ∧ ("java/util/Iterator" : String) ≠ "java/lang/invoke/VarHandle" := by decide +kernel
theorem own_pd_230 : parseMethodDescriptor "()Z" = some ⟨[], some .boolean⟩ := by decide +kernel
theorem own_d_prog_17_43_16 : decode prog_17_method_43_code 16 = .ok (.ifCond .eq 48, 3) := by decide +kernel
theorem own_d_prog_17_43_64 : decode prog_17_method_43_code 64 = .ok (.return_, 1) := by decide +kernel
abbrev own_y_233 : MethodName := ⟨"com/example/temanggung/temanggung/beans/factory/BeanDefinition", "changed", "()V"⟩
theorem own_pn_234 : plainName "com/example/temanggung/temanggung/beans/factory/BeanDefinition" = true := by first | (simp [plainName, overriddenIn]; done) | decide +kernel
theorem own_ef_rmCH (m : MethodId) (a : Addr)  : entryFrame m #[(.ref a)] 4 = mkF m 0 #[.val (.ref a), .unset, .unset, .unset] [] := by first | (simp [entryFrame, mkF, argsToLocals, Value.category, maxLocals]; done) | rfl
def QrmCH (Z : State) (w0 w1 w2 w3 wl wle wd mAL mUL mUR mOA : Addr) (wcs : Int32) (kle kd : ClassId) (a : Addr) (wt : Addr) (ar : Addr) (kr : ClassId) (h0 : Heap) (n0 : Nat) (v : Option Value) (h : Heap) (L : List Loc) : Prop := v = none ∧ Fr n0 L ∧ Keep h0 h []
set_option maxRecDepth 65536 in
set_option maxHeartbeats 40000000 in
abbrev own_c_235 : String := "com/example/temanggung/temanggung/beans/factory/BeanDefinition"
theorem rmCH (l : Launch) (Z : State) (a0 : Array Value) (hw : own_H a0 Z) (ws : List Jvm.Cond) (w0 w1 w2 w3 wl wle wd mAL mUL mUR mOA : Addr) (wcs : Int32) (kle kd : ClassId) (hS : own_S Z w0 w1 w2 w3 wl wle wd mAL mUL mUR mOA wcs kle kd) (a : Addr) (wt : Addr) (ar : Addr) (kr : ClassId) (h0 : Heap) (n0 : Nat) (O0 : Old Z n0 h0) (E : Exa Z h0 a own_c_235) (F1 : Fld Z h0 a own_c_235 "watchers" "Ljava/util/List;" (.ref wt)) (C0 : Exa Z h0 wt own_c_157) (C1 : Fld Z h0 wt own_c_157 "array" "[Ljava/lang/Object;" (.ref ar)) (C2 : Arv Z h0 ar kr (.object "java/lang/Object") (0 : Int32) [] .null) (C3 : Exa Z h0 ar "[Ljava/lang/Object;") :
    own_Met l own_y_233 prog_17_method_43_code 4 none ws ({ frames := 3, cells := 1, slots := 2, locals := 39 } : Room) Z h0 #[(.ref a)] (QrmCH Z w0 w1 w2 w3 wl wle wd mAL mUL mUR mOA wcs kle kd a wt ar kr h0 n0) := by
  refine own_body (plainFor_of_name own_pn_234) ?_
  intro p e s m below meth c s₁ hx hby hml hown hnm hret hlk hZ e0 X0
  have N0 := Fr.nil n0
  refine own_st (fun u_ k_ => castTop (own_ef_rmCH m a) k_) ?_
  show own_Go p e below _ (s₁.setTop (mkF m 0 #[.val (.ref a), .unset, .unset, .unset] []))
  refine own_st (fun u_ k_ => XS.aloadN X0.here hx rfl (hb hby own_d_prog_17_43_0) rfl rfl k_) ?_
  obtain ⟨T150, X150, e150, st150⟩ := getF X0 hx hZ hown (host := "") (Or.inl (own_w hw 138 rfl)) Via.refl e0 F1 (g := (mkF m 1 #[.val (.ref a), .unset, .unset, .unset] [(.ref a)])) rfl rfl (hb hby own_d_prog_17_43_1)
  refine own_st (fun u_ k_ => st150 u_ k_) ?_
  show own_Go p e below _ (T150.setTop (mkF m 4 #[.val (.ref a), .unset, .unset, .unset] [(.ref wt)]))
  obtain ⟨T151, v151, L151, X151, hQ151, st151⟩ := own_callI X150 hx hZ (y := own_y_223) (z := own_y_210) hown (own_w hw 171 rfl) (own_w hw 172 rfl) (mvT hZ (own_w hw 173 rfl)) (own_w hw 174 rfl) (own_w hw 175 rfl) (own_w hw 176 rfl) (own_w hw 177 rfl) (own_w hw 178 rfl) (own_w hw 120 rfl) (own_w hw 179 rfl) own_lm_132 (rmIT l Z a0 hw [] w0 w1 w2 w3 wl wle wd mAL mUL mUR mOA wcs kle kd hS wt ar h0 n0 O0 C0 C1) e150 C0 own_pd_224 (argsL := []) (rest := []) rfl rfl (g := (mkF m 4 #[.val (.ref a), .unset, .unset, .unset] [(.ref wt)])) rfl (by rw [hml]; rfl) rfl (hb hby own_d_prog_17_43_4) (W := 0) rfl (by decide) (by decide) (by decide) (by decide)
  obtain ⟨r_152, rfl, M151, K151, z153, F154, F155, F156⟩ := hQ151
  have N151 := Fr.app N0 M151
  refine own_st (fun u_ k_ => st151 u_ k_) ?_
  show own_Go p e below _ (T151.setTop (mkF m 9 #[.val (.ref a), .unset, .unset, .unset] [(.ref r_152)]))
  refine own_st (fun u_ k_ => XS.astoreN X151.here hx rfl (hb hby own_d_prog_17_43_9) rfl rfl (l' := #[.val (.ref a), .val (.ref r_152), .unset, .unset]) rfl k_) ?_
  refine own_st (fun u_ k_ => XS.aloadN X151.here hx rfl (hb hby own_d_prog_17_43_10) rfl rfl k_) ?_
  show own_Go p e below _ (T151.setTop (mkF m 11 #[.val (.ref a), .val (.ref r_152), .unset, .unset] [(.ref r_152)]))
  have F157 := (C2.keep K151 nin0)
  have O159 : Old Z n0 T151.heap := O0.keep K151 all0
  obtain ⟨T158, v158, L158, X158, hQ158, st158⟩ := own_callI X151 hx hZ (y := own_y_228) (z := own_y_219) hown (own_w hw 197 rfl) (own_w hw 198 rfl) (mvT hZ (own_w hw 199 rfl)) (own_w hw 200 rfl) (own_w hw 201 rfl) (own_w hw 202 rfl) (own_w hw 203 rfl) (own_w hw 204 rfl) (own_w hw 182 rfl) (own_w hw 205 rfl) own_lm_229 (rmHN l Z a0 hw [] w0 w1 w2 w3 wl wle wd mAL mUL mUR mOA wcs kle kd hS r_152 ar kr T151.heap n0 O159 F155 F156 F157) rfl F154 own_pd_230 (argsL := []) (rest := []) rfl rfl (g := (mkF m 11 #[.val (.ref a), .val (.ref r_152), .unset, .unset] [(.ref r_152)])) rfl (by rw [hml]; rfl) rfl (hb hby own_d_prog_17_43_11) (W := 0) rfl (by decide) (by decide) (by decide) (by decide)
  obtain ⟨rfl, M158, e158⟩ := hQ158
  have N158 := Fr.app N151 M158
  refine own_st (fun u_ k_ => st158 u_ k_) ?_
  show own_Go p e below _ (T158.setTop (mkF m 16 #[.val (.ref a), .val (.ref r_152), .unset, .unset] [(.int (0 : Int32))]))
  refine own_st (fun u_ k_ => XS.ifYes X158.here hx rfl (pc0 := 16) (pc' := 64) rfl (hb hby own_d_prog_17_43_16) rfl (XT.i0_eq_t (by decide)) (by decide) (by decide) k_) ?_
  have K160 : Keep h0 T151.heap [] := (Keep.refl h0 []).trans K151 all0
  exact own_retV X158 hx hlk hret (hb hby own_d_prog_17_43_64) (by decide) (by decide) (show QrmCH Z w0 w1 w2 w3 wl wle wd mAL mUL mUR mOA wcs kle kd a wt ar kr h0 n0 none T158.heap _ from (by rw [e158]; exact ⟨rfl, N158, K160⟩))
theorem own_d_prog_17_1_0 : decode prog_17_method_1_code 0 = .ok (.aload_n 0, 1) := by decide +kernel
theorem own_d_prog_17_1_1 : decode prog_17_method_1_code 1 = .ok (.invokespecial 1, 3) := by decide +kernel
theorem own_d_prog_17_1_4 : decode prog_17_method_1_code 4 = .ok (.aload_n 0, 1) := by decide +kernel
theorem own_d_prog_17_1_5 : decode prog_17_method_1_code 5 = .ok (.invokestatic 7, 3) := by decide +kernel
theorem own_pd_240 : parseMethodDescriptor "()Ljava/util/List;" = some ⟨[], some (.object "java/util/List")⟩ := by decide +kernel
theorem own_d_prog_17_1_8 : decode prog_17_method_1_code 8 = .ok (.putfield 13, 3) := by decide +kernel
theorem own_d_prog_17_1_11 : decode prog_17_method_1_code 11 = .ok (.aload_n 0, 1) := by decide +kernel
theorem own_d_prog_17_1_12 : decode prog_17_method_1_code 12 = .ok (.invokestatic 7, 3) := by decide +kernel
theorem own_d_prog_17_1_15 : decode prog_17_method_1_code 15 = .ok (.putfield 19, 3) := by decide +kernel
theorem own_lm_245 : ("dependsOn" : String) ≠ "qualifiers" := by decide +kernel
def own_sn_246 {Z : State} {a0 : Array Value} (hw : own_H a0 Z) := slot_ne (Or.inl (own_w hw 42 rfl)) (Or.inl (own_w hw 40 rfl)) own_lm_245 (t := (.object "java/util/List")) (t' := (.object "java/util/List")) own_lm_104 own_lm_104
theorem own_d_prog_17_1_18 : decode prog_17_method_1_code 18 = .ok (.aload_n 0, 1) := by decide +kernel
theorem own_d_prog_17_1_19 : decode prog_17_method_1_code 19 = .ok (.new 22, 3) := by decide +kernel
theorem own_d_prog_17_1_22 : decode prog_17_method_1_code 22 = .ok (.dup, 1) := by decide +kernel
theorem own_d_prog_17_1_23 : decode prog_17_method_1_code 23 = .ok (.invokespecial 24, 3) := by decide +kernel
theorem own_lm_251 : ("java/util/ArrayList" : String) ≠ "java/lang/invoke/MethodHandle" ∧ ("java/util/ArrayList" : String) ≠ "java/lang/invoke/VarHandle" := by decide +kernel
theorem own_d_prog_17_1_26 : decode prog_17_method_1_code 26 = .ok (.putfield 25, 3) := by decide +kernel
theorem own_lm_253 : ("constructorArguments" : String) ≠ "qualifiers" := by decide +kernel
def own_sn_254 {Z : State} {a0 : Array Value} (hw : own_H a0 Z) := slot_ne (Or.inr (own_w hw 68 rfl)) (Or.inl (own_w hw 40 rfl)) own_lm_253 (t := (.object "java/util/List")) (t' := (.object "java/util/List")) own_lm_104 own_lm_104
theorem own_lm_255 : ("constructorArguments" : String) ≠ "dependsOn" := by decide +kernel
def own_sn_256 {Z : State} {a0 : Array Value} (hw : own_H a0 Z) := slot_ne (Or.inr (own_w hw 68 rfl)) (Or.inl (own_w hw 42 rfl)) own_lm_255 (t := (.object "java/util/List")) (t' := (.object "java/util/List")) own_lm_104 own_lm_104
theorem own_d_prog_17_1_29 : decode prog_17_method_1_code 29 = .ok (.aload_n 0, 1) := by decide +kernel
theorem own_d_prog_17_1_30 : decode prog_17_method_1_code 30 = .ok (.aload_n 0, 1) := by decide +kernel
theorem own_d_prog_17_1_31 : decode prog_17_method_1_code 31 = .ok (.getfield 25, 3) := by decide +kernel
theorem own_d_prog_17_1_34 : decode prog_17_method_1_code 34 = .ok (.invokestatic 28, 3) := by decide +kernel
theorem own_lm_261 : ("java/util/Collections" : String) ≠ "java/lang/invoke/MethodHandle" ∧ ("java/util/Collections" : String) ≠ "java/lang/invoke/VarHandle" := by decide +kernel
theorem own_pd_262 : parseMethodDescriptor "(Ljava/util/List;)Ljava/util/List;" = some ⟨[(.object "java/util/List")], some (.object "java/util/List")⟩ := by decide +kernel
theorem own_d_prog_17_1_37 : decode prog_17_method_1_code 37 = .ok (.putfield 34, 3) := by decide +kernel
theorem own_lm_264 : ("constructorArgumentsView" : String) ≠ "qualifiers" := by decide +kernel
def own_sn_265 {Z : State} {a0 : Array Value} (hw : own_H a0 Z) := slot_ne (Or.inr (own_w hw 113 rfl)) (Or.inl (own_w hw 40 rfl)) own_lm_264 (t := (.object "java/util/List")) (t' := (.object "java/util/List")) own_lm_104 own_lm_104
theorem own_lm_266 : ("constructorArgumentsView" : String) ≠ "dependsOn" := by decide +kernel
def own_sn_267 {Z : State} {a0 : Array Value} (hw : own_H a0 Z) := slot_ne (Or.inr (own_w hw 113 rfl)) (Or.inl (own_w hw 42 rfl)) own_lm_266 (t := (.object "java/util/List")) (t' := (.object "java/util/List")) own_lm_104 own_lm_104
theorem own_lm_268 : ("constructorArgumentsView" : String) ≠ "constructorArguments" := by decide +kernel
def own_sn_269 {Z : State} {a0 : Array Value} (hw : own_H a0 Z) := slot_ne (Or.inr (own_w hw 113 rfl)) (Or.inr (own_w hw 68 rfl)) own_lm_268 (t := (.object "java/util/List")) (t' := (.object "java/util/List")) own_lm_104 own_lm_104
theorem own_d_prog_17_1_40 : decode prog_17_method_1_code 40 = .ok (.aload_n 0, 1) := by decide +kernel
theorem own_d_prog_17_1_41 : decode prog_17_method_1_code 41 = .ok (.new 22, 3) := by decide +kernel
theorem own_d_prog_17_1_44 : decode prog_17_method_1_code 44 = .ok (.dup, 1) := by decide +kernel
theorem own_d_prog_17_1_45 : decode prog_17_method_1_code 45 = .ok (.invokespecial 24, 3) := by decide +kernel
theorem own_d_prog_17_1_48 : decode prog_17_method_1_code 48 = .ok (.putfield 37, 3) := by decide +kernel
theorem own_lm_275 : ("propertyValues" : String) ≠ "qualifiers" := by decide +kernel
def own_sn_276 {Z : State} {a0 : Array Value} (hw : own_H a0 Z) := slot_ne (Or.inr (own_w hw 115 rfl)) (Or.inl (own_w hw 40 rfl)) own_lm_275 (t := (.object "java/util/List")) (t' := (.object "java/util/List")) own_lm_104 own_lm_104
theorem own_lm_277 : ("propertyValues" : String) ≠ "dependsOn" := by decide +kernel
def own_sn_278 {Z : State} {a0 : Array Value} (hw : own_H a0 Z) := slot_ne (Or.inr (own_w hw 115 rfl)) (Or.inl (own_w hw 42 rfl)) own_lm_277 (t := (.object "java/util/List")) (t' := (.object "java/util/List")) own_lm_104 own_lm_104
theorem own_lm_279 : ("propertyValues" : String) ≠ "constructorArguments" := by decide +kernel
def own_sn_280 {Z : State} {a0 : Array Value} (hw : own_H a0 Z) := slot_ne (Or.inr (own_w hw 115 rfl)) (Or.inr (own_w hw 68 rfl)) own_lm_279 (t := (.object "java/util/List")) (t' := (.object "java/util/List")) own_lm_104 own_lm_104
theorem own_lm_281 : ("propertyValues" : String) ≠ "constructorArgumentsView" := by decide +kernel
def own_sn_282 {Z : State} {a0 : Array Value} (hw : own_H a0 Z) := slot_ne (Or.inr (own_w hw 115 rfl)) (Or.inr (own_w hw 113 rfl)) own_lm_281 (t := (.object "java/util/List")) (t' := (.object "java/util/List")) own_lm_104 own_lm_104
theorem own_d_prog_17_1_51 : decode prog_17_method_1_code 51 = .ok (.aload_n 0, 1) := by decide +kernel
theorem own_d_prog_17_1_52 : decode prog_17_method_1_code 52 = .ok (.aload_n 0, 1) := by decide +kernel
theorem own_d_prog_17_1_53 : decode prog_17_method_1_code 53 = .ok (.getfield 37, 3) := by decide +kernel
theorem own_d_prog_17_1_56 : decode prog_17_method_1_code 56 = .ok (.invokestatic 28, 3) := by decide +kernel
theorem own_d_prog_17_1_59 : decode prog_17_method_1_code 59 = .ok (.putfield 40, 3) := by decide +kernel
theorem own_lm_288 : ("propertyValuesView" : String) ≠ "qualifiers" := by decide +kernel
def own_sn_289 {Z : State} {a0 : Array Value} (hw : own_H a0 Z) := slot_ne (Or.inr (own_w hw 117 rfl)) (Or.inl (own_w hw 40 rfl)) own_lm_288 (t := (.object "java/util/List")) (t' := (.object "java/util/List")) own_lm_104 own_lm_104
theorem own_lm_290 : ("propertyValuesView" : String) ≠ "dependsOn" := by decide +kernel
def own_sn_291 {Z : State} {a0 : Array Value} (hw : own_H a0 Z) := slot_ne (Or.inr (own_w hw 117 rfl)) (Or.inl (own_w hw 42 rfl)) own_lm_290 (t := (.object "java/util/List")) (t' := (.object "java/util/List")) own_lm_104 own_lm_104
theorem own_lm_292 : ("propertyValuesView" : String) ≠ "constructorArguments" := by decide +kernel
def own_sn_293 {Z : State} {a0 : Array Value} (hw : own_H a0 Z) := slot_ne (Or.inr (own_w hw 117 rfl)) (Or.inr (own_w hw 68 rfl)) own_lm_292 (t := (.object "java/util/List")) (t' := (.object "java/util/List")) own_lm_104 own_lm_104
theorem own_lm_294 : ("propertyValuesView" : String) ≠ "constructorArgumentsView" := by decide +kernel
def own_sn_295 {Z : State} {a0 : Array Value} (hw : own_H a0 Z) := slot_ne (Or.inr (own_w hw 117 rfl)) (Or.inr (own_w hw 113 rfl)) own_lm_294 (t := (.object "java/util/List")) (t' := (.object "java/util/List")) own_lm_104 own_lm_104
theorem own_lm_296 : ("propertyValuesView" : String) ≠ "propertyValues" := by decide +kernel
def own_sn_297 {Z : State} {a0 : Array Value} (hw : own_H a0 Z) := slot_ne (Or.inr (own_w hw 117 rfl)) (Or.inr (own_w hw 115 rfl)) own_lm_296 (t := (.object "java/util/List")) (t' := (.object "java/util/List")) own_lm_104 own_lm_104
theorem own_d_prog_17_1_62 : decode prog_17_method_1_code 62 = .ok (.aload_n 0, 1) := by decide +kernel
theorem own_d_prog_17_1_63 : decode prog_17_method_1_code 63 = .ok (.new 43, 3) := by decide +kernel
theorem own_d_prog_17_1_66 : decode prog_17_method_1_code 66 = .ok (.dup, 1) := by decide +kernel
theorem own_d_prog_17_1_67 : decode prog_17_method_1_code 67 = .ok (.invokespecial 45, 3) := by decide +kernel
theorem own_d_prog_17_1_70 : decode prog_17_method_1_code 70 = .ok (.putfield 46, 3) := by decide +kernel
theorem own_lm_303 : ("watchers" : String) ≠ "qualifiers" := by decide +kernel
def own_sn_304 {Z : State} {a0 : Array Value} (hw : own_H a0 Z) := slot_ne (Or.inr (own_w hw 139 rfl)) (Or.inl (own_w hw 40 rfl)) own_lm_303 (t := (.object "java/util/List")) (t' := (.object "java/util/List")) own_lm_104 own_lm_104
theorem own_lm_305 : ("watchers" : String) ≠ "dependsOn" := by decide +kernel
def own_sn_306 {Z : State} {a0 : Array Value} (hw : own_H a0 Z) := slot_ne (Or.inr (own_w hw 139 rfl)) (Or.inl (own_w hw 42 rfl)) own_lm_305 (t := (.object "java/util/List")) (t' := (.object "java/util/List")) own_lm_104 own_lm_104
theorem own_lm_307 : ("watchers" : String) ≠ "constructorArguments" := by decide +kernel
def own_sn_308 {Z : State} {a0 : Array Value} (hw : own_H a0 Z) := slot_ne (Or.inr (own_w hw 139 rfl)) (Or.inr (own_w hw 68 rfl)) own_lm_307 (t := (.object "java/util/List")) (t' := (.object "java/util/List")) own_lm_104 own_lm_104
theorem own_lm_309 : ("watchers" : String) ≠ "constructorArgumentsView" := by decide +kernel
def own_sn_310 {Z : State} {a0 : Array Value} (hw : own_H a0 Z) := slot_ne (Or.inr (own_w hw 139 rfl)) (Or.inr (own_w hw 113 rfl)) own_lm_309 (t := (.object "java/util/List")) (t' := (.object "java/util/List")) own_lm_104 own_lm_104
theorem own_lm_311 : ("watchers" : String) ≠ "propertyValues" := by decide +kernel
def own_sn_312 {Z : State} {a0 : Array Value} (hw : own_H a0 Z) := slot_ne (Or.inr (own_w hw 139 rfl)) (Or.inr (own_w hw 115 rfl)) own_lm_311 (t := (.object "java/util/List")) (t' := (.object "java/util/List")) own_lm_104 own_lm_104
theorem own_lm_313 : ("watchers" : String) ≠ "propertyValuesView" := by decide +kernel
def own_sn_314 {Z : State} {a0 : Array Value} (hw : own_H a0 Z) := slot_ne (Or.inr (own_w hw 139 rfl)) (Or.inr (own_w hw 117 rfl)) own_lm_313 (t := (.object "java/util/List")) (t' := (.object "java/util/List")) own_lm_104 own_lm_104
theorem own_d_prog_17_1_73 : decode prog_17_method_1_code 73 = .ok (.aload_n 0, 1) := by decide +kernel
theorem own_d_prog_17_1_74 : decode prog_17_method_1_code 74 = .ok (.aload_n 1, 1) := by decide +kernel
theorem own_d_prog_17_1_75 : decode prog_17_method_1_code 75 = .ok (.putfield 49, 3) := by decide +kernel
theorem own_lm_318 : ("className" : String) ≠ "qualifiers" := by decide +kernel
theorem own_lm_319 : parseFieldDescriptor "Ljava/lang/String;" = some (.object "java/lang/String") := by decide +kernel
def own_sn_320 {Z : State} {a0 : Array Value} (hw : own_H a0 Z) := slot_ne (Or.inl (own_w hw 141 rfl)) (Or.inl (own_w hw 40 rfl)) own_lm_318 (t := (.object "java/lang/String")) (t' := (.object "java/util/List")) own_lm_319 own_lm_104
theorem own_lm_321 : ("className" : String) ≠ "dependsOn" := by decide +kernel
def own_sn_322 {Z : State} {a0 : Array Value} (hw : own_H a0 Z) := slot_ne (Or.inl (own_w hw 141 rfl)) (Or.inl (own_w hw 42 rfl)) own_lm_321 (t := (.object "java/lang/String")) (t' := (.object "java/util/List")) own_lm_319 own_lm_104
theorem own_lm_323 : ("className" : String) ≠ "constructorArguments" := by decide +kernel
def own_sn_324 {Z : State} {a0 : Array Value} (hw : own_H a0 Z) := slot_ne (Or.inl (own_w hw 141 rfl)) (Or.inr (own_w hw 68 rfl)) own_lm_323 (t := (.object "java/lang/String")) (t' := (.object "java/util/List")) own_lm_319 own_lm_104
theorem own_lm_325 : ("className" : String) ≠ "constructorArgumentsView" := by decide +kernel
def own_sn_326 {Z : State} {a0 : Array Value} (hw : own_H a0 Z) := slot_ne (Or.inl (own_w hw 141 rfl)) (Or.inr (own_w hw 113 rfl)) own_lm_325 (t := (.object "java/lang/String")) (t' := (.object "java/util/List")) own_lm_319 own_lm_104
theorem own_lm_327 : ("className" : String) ≠ "propertyValues" := by decide +kernel
def own_sn_328 {Z : State} {a0 : Array Value} (hw : own_H a0 Z) := slot_ne (Or.inl (own_w hw 141 rfl)) (Or.inr (own_w hw 115 rfl)) own_lm_327 (t := (.object "java/lang/String")) (t' := (.object "java/util/List")) own_lm_319 own_lm_104
theorem own_lm_329 : ("className" : String) ≠ "propertyValuesView" := by decide +kernel
def own_sn_330 {Z : State} {a0 : Array Value} (hw : own_H a0 Z) := slot_ne (Or.inl (own_w hw 141 rfl)) (Or.inr (own_w hw 117 rfl)) own_lm_329 (t := (.object "java/lang/String")) (t' := (.object "java/util/List")) own_lm_319 own_lm_104
theorem own_lm_331 : ("className" : String) ≠ "watchers" := by decide +kernel
def own_sn_332 {Z : State} {a0 : Array Value} (hw : own_H a0 Z) := slot_ne (Or.inl (own_w hw 141 rfl)) (Or.inr (own_w hw 139 rfl)) own_lm_331 (t := (.object "java/lang/String")) (t' := (.object "java/util/List")) own_lm_319 own_lm_104
theorem own_d_prog_17_1_78 : decode prog_17_method_1_code 78 = .ok (.return_, 1) := by decide +kernel
theorem own_lm_334 : ("qualifiers" : String) ≠ "dependsOn" := by decide +kernel
def own_sn_335 {Z : State} {a0 : Array Value} (hw : own_H a0 Z) := slot_ne (Or.inl (own_w hw 40 rfl)) (Or.inl (own_w hw 42 rfl)) own_lm_334 (t := (.object "java/util/List")) (t' := (.object "java/util/List")) own_lm_104 own_lm_104
theorem own_lm_336 : ("qualifiers" : String) ≠ "constructorArguments" := by decide +kernel
def own_sn_337 {Z : State} {a0 : Array Value} (hw : own_H a0 Z) := slot_ne (Or.inl (own_w hw 40 rfl)) (Or.inr (own_w hw 68 rfl)) own_lm_336 (t := (.object "java/util/List")) (t' := (.object "java/util/List")) own_lm_104 own_lm_104
theorem own_lm_338 : ("qualifiers" : String) ≠ "constructorArgumentsView" := by decide +kernel
def own_sn_339 {Z : State} {a0 : Array Value} (hw : own_H a0 Z) := slot_ne (Or.inl (own_w hw 40 rfl)) (Or.inr (own_w hw 113 rfl)) own_lm_338 (t := (.object "java/util/List")) (t' := (.object "java/util/List")) own_lm_104 own_lm_104
theorem own_lm_340 : ("qualifiers" : String) ≠ "propertyValues" := by decide +kernel
def own_sn_341 {Z : State} {a0 : Array Value} (hw : own_H a0 Z) := slot_ne (Or.inl (own_w hw 40 rfl)) (Or.inr (own_w hw 115 rfl)) own_lm_340 (t := (.object "java/util/List")) (t' := (.object "java/util/List")) own_lm_104 own_lm_104
theorem own_lm_342 : ("qualifiers" : String) ≠ "propertyValuesView" := by decide +kernel
def own_sn_343 {Z : State} {a0 : Array Value} (hw : own_H a0 Z) := slot_ne (Or.inl (own_w hw 40 rfl)) (Or.inr (own_w hw 117 rfl)) own_lm_342 (t := (.object "java/util/List")) (t' := (.object "java/util/List")) own_lm_104 own_lm_104
theorem own_lm_344 : ("qualifiers" : String) ≠ "watchers" := by decide +kernel
def own_sn_345 {Z : State} {a0 : Array Value} (hw : own_H a0 Z) := slot_ne (Or.inl (own_w hw 40 rfl)) (Or.inr (own_w hw 139 rfl)) own_lm_344 (t := (.object "java/util/List")) (t' := (.object "java/util/List")) own_lm_104 own_lm_104
theorem own_lm_346 : ("qualifiers" : String) ≠ "className" := by decide +kernel
def own_sn_347 {Z : State} {a0 : Array Value} (hw : own_H a0 Z) := slot_ne (Or.inl (own_w hw 40 rfl)) (Or.inl (own_w hw 141 rfl)) own_lm_346 (t := (.object "java/util/List")) (t' := (.object "java/lang/String")) own_lm_104 own_lm_319
theorem own_lm_348 : ("dependsOn" : String) ≠ "constructorArguments" := by decide +kernel
def own_sn_349 {Z : State} {a0 : Array Value} (hw : own_H a0 Z) := slot_ne (Or.inl (own_w hw 42 rfl)) (Or.inr (own_w hw 68 rfl)) own_lm_348 (t := (.object "java/util/List")) (t' := (.object "java/util/List")) own_lm_104 own_lm_104
theorem own_lm_350 : ("dependsOn" : String) ≠ "constructorArgumentsView" := by decide +kernel
def own_sn_351 {Z : State} {a0 : Array Value} (hw : own_H a0 Z) := slot_ne (Or.inl (own_w hw 42 rfl)) (Or.inr (own_w hw 113 rfl)) own_lm_350 (t := (.object "java/util/List")) (t' := (.object "java/util/List")) own_lm_104 own_lm_104
theorem own_lm_352 : ("dependsOn" : String) ≠ "propertyValues" := by decide +kernel
def own_sn_353 {Z : State} {a0 : Array Value} (hw : own_H a0 Z) := slot_ne (Or.inl (own_w hw 42 rfl)) (Or.inr (own_w hw 115 rfl)) own_lm_352 (t := (.object "java/util/List")) (t' := (.object "java/util/List")) own_lm_104 own_lm_104
theorem own_lm_354 : ("dependsOn" : String) ≠ "propertyValuesView" := by decide +kernel
def own_sn_355 {Z : State} {a0 : Array Value} (hw : own_H a0 Z) := slot_ne (Or.inl (own_w hw 42 rfl)) (Or.inr (own_w hw 117 rfl)) own_lm_354 (t := (.object "java/util/List")) (t' := (.object "java/util/List")) own_lm_104 own_lm_104
theorem own_lm_356 : ("dependsOn" : String) ≠ "watchers" := by decide +kernel
def own_sn_357 {Z : State} {a0 : Array Value} (hw : own_H a0 Z) := slot_ne (Or.inl (own_w hw 42 rfl)) (Or.inr (own_w hw 139 rfl)) own_lm_356 (t := (.object "java/util/List")) (t' := (.object "java/util/List")) own_lm_104 own_lm_104
theorem own_lm_358 : ("dependsOn" : String) ≠ "className" := by decide +kernel
def own_sn_359 {Z : State} {a0 : Array Value} (hw : own_H a0 Z) := slot_ne (Or.inl (own_w hw 42 rfl)) (Or.inl (own_w hw 141 rfl)) own_lm_358 (t := (.object "java/util/List")) (t' := (.object "java/lang/String")) own_lm_104 own_lm_319
theorem own_lm_360 : ("constructorArguments" : String) ≠ "constructorArgumentsView" := by decide +kernel
def own_sn_361 {Z : State} {a0 : Array Value} (hw : own_H a0 Z) := slot_ne (Or.inr (own_w hw 68 rfl)) (Or.inr (own_w hw 113 rfl)) own_lm_360 (t := (.object "java/util/List")) (t' := (.object "java/util/List")) own_lm_104 own_lm_104
theorem own_lm_362 : ("constructorArguments" : String) ≠ "propertyValues" := by decide +kernel
def own_sn_363 {Z : State} {a0 : Array Value} (hw : own_H a0 Z) := slot_ne (Or.inr (own_w hw 68 rfl)) (Or.inr (own_w hw 115 rfl)) own_lm_362 (t := (.object "java/util/List")) (t' := (.object "java/util/List")) own_lm_104 own_lm_104
theorem own_lm_364 : ("constructorArguments" : String) ≠ "propertyValuesView" := by decide +kernel
def own_sn_365 {Z : State} {a0 : Array Value} (hw : own_H a0 Z) := slot_ne (Or.inr (own_w hw 68 rfl)) (Or.inr (own_w hw 117 rfl)) own_lm_364 (t := (.object "java/util/List")) (t' := (.object "java/util/List")) own_lm_104 own_lm_104
theorem own_lm_366 : ("constructorArguments" : String) ≠ "watchers" := by decide +kernel
def own_sn_367 {Z : State} {a0 : Array Value} (hw : own_H a0 Z) := slot_ne (Or.inr (own_w hw 68 rfl)) (Or.inr (own_w hw 139 rfl)) own_lm_366 (t := (.object "java/util/List")) (t' := (.object "java/util/List")) own_lm_104 own_lm_104
theorem own_lm_368 : ("constructorArguments" : String) ≠ "className" := by decide +kernel
def own_sn_369 {Z : State} {a0 : Array Value} (hw : own_H a0 Z) := slot_ne (Or.inr (own_w hw 68 rfl)) (Or.inl (own_w hw 141 rfl)) own_lm_368 (t := (.object "java/util/List")) (t' := (.object "java/lang/String")) own_lm_104 own_lm_319
theorem own_lm_370 : ("propertyValues" : String) ≠ "propertyValuesView" := by decide +kernel
def own_sn_371 {Z : State} {a0 : Array Value} (hw : own_H a0 Z) := slot_ne (Or.inr (own_w hw 115 rfl)) (Or.inr (own_w hw 117 rfl)) own_lm_370 (t := (.object "java/util/List")) (t' := (.object "java/util/List")) own_lm_104 own_lm_104
theorem own_lm_372 : ("propertyValues" : String) ≠ "watchers" := by decide +kernel
def own_sn_373 {Z : State} {a0 : Array Value} (hw : own_H a0 Z) := slot_ne (Or.inr (own_w hw 115 rfl)) (Or.inr (own_w hw 139 rfl)) own_lm_372 (t := (.object "java/util/List")) (t' := (.object "java/util/List")) own_lm_104 own_lm_104
theorem own_lm_374 : ("propertyValues" : String) ≠ "className" := by decide +kernel
def own_sn_375 {Z : State} {a0 : Array Value} (hw : own_H a0 Z) := slot_ne (Or.inr (own_w hw 115 rfl)) (Or.inl (own_w hw 141 rfl)) own_lm_374 (t := (.object "java/util/List")) (t' := (.object "java/lang/String")) own_lm_104 own_lm_319
theorem own_lm_376 : ("watchers" : String) ≠ "className" := by decide +kernel
def own_sn_377 {Z : State} {a0 : Array Value} (hw : own_H a0 Z) := slot_ne (Or.inr (own_w hw 139 rfl)) (Or.inl (own_w hw 141 rfl)) own_lm_376 (t := (.object "java/util/List")) (t' := (.object "java/lang/String")) own_lm_104 own_lm_319
theorem own_lm_378 : ("autowire" : String) ≠ "qualifiers" := by decide +kernel
theorem own_lm_379 : parseFieldDescriptor "Lcom/example/temanggung/temanggung/beans/factory/Autowire;" = some (.object "com/example/temanggung/temanggung/beans/factory/Autowire") := by decide +kernel
def own_sn_380 {Z : State} {a0 : Array Value} (hw : own_H a0 Z) := slot_ne (Or.inl (own_w hw 148 rfl)) (Or.inl (own_w hw 40 rfl)) own_lm_378 (t := (.object "com/example/temanggung/temanggung/beans/factory/Autowire")) (t' := (.object "java/util/List")) own_lm_379 own_lm_104
theorem own_lm_381 : ("autowire" : String) ≠ "dependsOn" := by decide +kernel
def own_sn_382 {Z : State} {a0 : Array Value} (hw : own_H a0 Z) := slot_ne (Or.inl (own_w hw 148 rfl)) (Or.inl (own_w hw 42 rfl)) own_lm_381 (t := (.object "com/example/temanggung/temanggung/beans/factory/Autowire")) (t' := (.object "java/util/List")) own_lm_379 own_lm_104
theorem own_lm_383 : ("autowire" : String) ≠ "constructorArguments" := by decide +kernel
def own_sn_384 {Z : State} {a0 : Array Value} (hw : own_H a0 Z) := slot_ne (Or.inl (own_w hw 148 rfl)) (Or.inr (own_w hw 68 rfl)) own_lm_383 (t := (.object "com/example/temanggung/temanggung/beans/factory/Autowire")) (t' := (.object "java/util/List")) own_lm_379 own_lm_104
theorem own_lm_385 : ("autowire" : String) ≠ "constructorArgumentsView" := by decide +kernel
def own_sn_386 {Z : State} {a0 : Array Value} (hw : own_H a0 Z) := slot_ne (Or.inl (own_w hw 148 rfl)) (Or.inr (own_w hw 113 rfl)) own_lm_385 (t := (.object "com/example/temanggung/temanggung/beans/factory/Autowire")) (t' := (.object "java/util/List")) own_lm_379 own_lm_104
theorem own_lm_387 : ("autowire" : String) ≠ "propertyValues" := by decide +kernel
def own_sn_388 {Z : State} {a0 : Array Value} (hw : own_H a0 Z) := slot_ne (Or.inl (own_w hw 148 rfl)) (Or.inr (own_w hw 115 rfl)) own_lm_387 (t := (.object "com/example/temanggung/temanggung/beans/factory/Autowire")) (t' := (.object "java/util/List")) own_lm_379 own_lm_104
theorem own_lm_389 : ("autowire" : String) ≠ "propertyValuesView" := by decide +kernel
def own_sn_390 {Z : State} {a0 : Array Value} (hw : own_H a0 Z) := slot_ne (Or.inl (own_w hw 148 rfl)) (Or.inr (own_w hw 117 rfl)) own_lm_389 (t := (.object "com/example/temanggung/temanggung/beans/factory/Autowire")) (t' := (.object "java/util/List")) own_lm_379 own_lm_104
theorem own_lm_391 : ("autowire" : String) ≠ "watchers" := by decide +kernel
def own_sn_392 {Z : State} {a0 : Array Value} (hw : own_H a0 Z) := slot_ne (Or.inl (own_w hw 148 rfl)) (Or.inr (own_w hw 139 rfl)) own_lm_391 (t := (.object "com/example/temanggung/temanggung/beans/factory/Autowire")) (t' := (.object "java/util/List")) own_lm_379 own_lm_104
theorem own_lm_393 : ("autowire" : String) ≠ "className" := by decide +kernel
def own_sn_394 {Z : State} {a0 : Array Value} (hw : own_H a0 Z) := slot_ne (Or.inl (own_w hw 148 rfl)) (Or.inl (own_w hw 141 rfl)) own_lm_393 (t := (.object "com/example/temanggung/temanggung/beans/factory/Autowire")) (t' := (.object "java/lang/String")) own_lm_379 own_lm_319
theorem own_lm_395 : ("value" : String) ≠ "qualifiers" := by decide +kernel
theorem own_lm_396 : parseFieldDescriptor "Lcom/example/temanggung/temanggung/beans/factory/DefinedValue;" = some (.object "com/example/temanggung/temanggung/beans/factory/DefinedValue") := by decide +kernel
def own_sn_397 {Z : State} {a0 : Array Value} (hw : own_H a0 Z) := slot_ne (Or.inl (own_w hw 221 rfl)) (Or.inl (own_w hw 40 rfl)) own_lm_395 (t := (.object "com/example/temanggung/temanggung/beans/factory/DefinedValue")) (t' := (.object "java/util/List")) own_lm_396 own_lm_104
theorem own_lm_398 : ("value" : String) ≠ "dependsOn" := by decide +kernel
def own_sn_399 {Z : State} {a0 : Array Value} (hw : own_H a0 Z) := slot_ne (Or.inl (own_w hw 221 rfl)) (Or.inl (own_w hw 42 rfl)) own_lm_398 (t := (.object "com/example/temanggung/temanggung/beans/factory/DefinedValue")) (t' := (.object "java/util/List")) own_lm_396 own_lm_104
theorem own_lm_400 : ("value" : String) ≠ "constructorArguments" := by decide +kernel
def own_sn_401 {Z : State} {a0 : Array Value} (hw : own_H a0 Z) := slot_ne (Or.inl (own_w hw 221 rfl)) (Or.inr (own_w hw 68 rfl)) own_lm_400 (t := (.object "com/example/temanggung/temanggung/beans/factory/DefinedValue")) (t' := (.object "java/util/List")) own_lm_396 own_lm_104
theorem own_lm_402 : ("value" : String) ≠ "constructorArgumentsView" := by decide +kernel
def own_sn_403 {Z : State} {a0 : Array Value} (hw : own_H a0 Z) := slot_ne (Or.inl (own_w hw 221 rfl)) (Or.inr (own_w hw 113 rfl)) own_lm_402 (t := (.object "com/example/temanggung/temanggung/beans/factory/DefinedValue")) (t' := (.object "java/util/List")) own_lm_396 own_lm_104
theorem own_lm_404 : ("value" : String) ≠ "propertyValues" := by decide +kernel
def own_sn_405 {Z : State} {a0 : Array Value} (hw : own_H a0 Z) := slot_ne (Or.inl (own_w hw 221 rfl)) (Or.inr (own_w hw 115 rfl)) own_lm_404 (t := (.object "com/example/temanggung/temanggung/beans/factory/DefinedValue")) (t' := (.object "java/util/List")) own_lm_396 own_lm_104
theorem own_lm_406 : ("value" : String) ≠ "propertyValuesView" := by decide +kernel
def own_sn_407 {Z : State} {a0 : Array Value} (hw : own_H a0 Z) := slot_ne (Or.inl (own_w hw 221 rfl)) (Or.inr (own_w hw 117 rfl)) own_lm_406 (t := (.object "com/example/temanggung/temanggung/beans/factory/DefinedValue")) (t' := (.object "java/util/List")) own_lm_396 own_lm_104
theorem own_lm_408 : ("value" : String) ≠ "watchers" := by decide +kernel
def own_sn_409 {Z : State} {a0 : Array Value} (hw : own_H a0 Z) := slot_ne (Or.inl (own_w hw 221 rfl)) (Or.inr (own_w hw 139 rfl)) own_lm_408 (t := (.object "com/example/temanggung/temanggung/beans/factory/DefinedValue")) (t' := (.object "java/util/List")) own_lm_396 own_lm_104
theorem own_lm_410 : ("value" : String) ≠ "className" := by decide +kernel
def own_sn_411 {Z : State} {a0 : Array Value} (hw : own_H a0 Z) := slot_ne (Or.inl (own_w hw 221 rfl)) (Or.inl (own_w hw 141 rfl)) own_lm_410 (t := (.object "com/example/temanggung/temanggung/beans/factory/DefinedValue")) (t' := (.object "java/lang/String")) own_lm_396 own_lm_319
theorem own_lm_412 : ("abstractDefinition" : String) ≠ "qualifiers" := by decide +kernel
theorem own_lm_413 : parseFieldDescriptor "Z" = some .boolean := by decide +kernel
def own_sn_414 {Z : State} {a0 : Array Value} (hw : own_H a0 Z) := slot_ne (Or.inl (own_w hw 223 rfl)) (Or.inl (own_w hw 40 rfl)) own_lm_412 (t := .boolean) (t' := (.object "java/util/List")) own_lm_413 own_lm_104
theorem own_lm_415 : ("abstractDefinition" : String) ≠ "dependsOn" := by decide +kernel
def own_sn_416 {Z : State} {a0 : Array Value} (hw : own_H a0 Z) := slot_ne (Or.inl (own_w hw 223 rfl)) (Or.inl (own_w hw 42 rfl)) own_lm_415 (t := .boolean) (t' := (.object "java/util/List")) own_lm_413 own_lm_104
theorem own_lm_417 : ("abstractDefinition" : String) ≠ "constructorArguments" := by decide +kernel
def own_sn_418 {Z : State} {a0 : Array Value} (hw : own_H a0 Z) := slot_ne (Or.inl (own_w hw 223 rfl)) (Or.inr (own_w hw 68 rfl)) own_lm_417 (t := .boolean) (t' := (.object "java/util/List")) own_lm_413 own_lm_104
theorem own_lm_419 : ("abstractDefinition" : String) ≠ "constructorArgumentsView" := by decide +kernel
def own_sn_420 {Z : State} {a0 : Array Value} (hw : own_H a0 Z) := slot_ne (Or.inl (own_w hw 223 rfl)) (Or.inr (own_w hw 113 rfl)) own_lm_419 (t := .boolean) (t' := (.object "java/util/List")) own_lm_413 own_lm_104
theorem own_lm_421 : ("abstractDefinition" : String) ≠ "propertyValues" := by decide +kernel
def own_sn_422 {Z : State} {a0 : Array Value} (hw : own_H a0 Z) := slot_ne (Or.inl (own_w hw 223 rfl)) (Or.inr (own_w hw 115 rfl)) own_lm_421 (t := .boolean) (t' := (.object "java/util/List")) own_lm_413 own_lm_104
theorem own_lm_423 : ("abstractDefinition" : String) ≠ "propertyValuesView" := by decide +kernel
def own_sn_424 {Z : State} {a0 : Array Value} (hw : own_H a0 Z) := slot_ne (Or.inl (own_w hw 223 rfl)) (Or.inr (own_w hw 117 rfl)) own_lm_423 (t := .boolean) (t' := (.object "java/util/List")) own_lm_413 own_lm_104
theorem own_lm_425 : ("abstractDefinition" : String) ≠ "watchers" := by decide +kernel
def own_sn_426 {Z : State} {a0 : Array Value} (hw : own_H a0 Z) := slot_ne (Or.inl (own_w hw 223 rfl)) (Or.inr (own_w hw 139 rfl)) own_lm_425 (t := .boolean) (t' := (.object "java/util/List")) own_lm_413 own_lm_104
theorem own_lm_427 : ("abstractDefinition" : String) ≠ "className" := by decide +kernel
def own_sn_428 {Z : State} {a0 : Array Value} (hw : own_H a0 Z) := slot_ne (Or.inl (own_w hw 223 rfl)) (Or.inl (own_w hw 141 rfl)) own_lm_427 (t := .boolean) (t' := (.object "java/lang/String")) own_lm_413 own_lm_319
theorem own_lm_429 : ("primary" : String) ≠ "qualifiers" := by decide +kernel
def own_sn_430 {Z : State} {a0 : Array Value} (hw : own_H a0 Z) := slot_ne (Or.inl (own_w hw 225 rfl)) (Or.inl (own_w hw 40 rfl)) own_lm_429 (t := .boolean) (t' := (.object "java/util/List")) own_lm_413 own_lm_104
theorem own_lm_431 : ("primary" : String) ≠ "dependsOn" := by decide +kernel
def own_sn_432 {Z : State} {a0 : Array Value} (hw : own_H a0 Z) := slot_ne (Or.inl (own_w hw 225 rfl)) (Or.inl (own_w hw 42 rfl)) own_lm_431 (t := .boolean) (t' := (.object "java/util/List")) own_lm_413 own_lm_104
theorem own_lm_433 : ("primary" : String) ≠ "constructorArguments" := by decide +kernel
def own_sn_434 {Z : State} {a0 : Array Value} (hw : own_H a0 Z) := slot_ne (Or.inl (own_w hw 225 rfl)) (Or.inr (own_w hw 68 rfl)) own_lm_433 (t := .boolean) (t' := (.object "java/util/List")) own_lm_413 own_lm_104
theorem own_lm_435 : ("primary" : String) ≠ "constructorArgumentsView" := by decide +kernel
def own_sn_436 {Z : State} {a0 : Array Value} (hw : own_H a0 Z) := slot_ne (Or.inl (own_w hw 225 rfl)) (Or.inr (own_w hw 113 rfl)) own_lm_435 (t := .boolean) (t' := (.object "java/util/List")) own_lm_413 own_lm_104
theorem own_lm_437 : ("primary" : String) ≠ "propertyValues" := by decide +kernel
def own_sn_438 {Z : State} {a0 : Array Value} (hw : own_H a0 Z) := slot_ne (Or.inl (own_w hw 225 rfl)) (Or.inr (own_w hw 115 rfl)) own_lm_437 (t := .boolean) (t' := (.object "java/util/List")) own_lm_413 own_lm_104
theorem own_lm_439 : ("primary" : String) ≠ "propertyValuesView" := by decide +kernel
def own_sn_440 {Z : State} {a0 : Array Value} (hw : own_H a0 Z) := slot_ne (Or.inl (own_w hw 225 rfl)) (Or.inr (own_w hw 117 rfl)) own_lm_439 (t := .boolean) (t' := (.object "java/util/List")) own_lm_413 own_lm_104
theorem own_lm_441 : ("primary" : String) ≠ "watchers" := by decide +kernel
def own_sn_442 {Z : State} {a0 : Array Value} (hw : own_H a0 Z) := slot_ne (Or.inl (own_w hw 225 rfl)) (Or.inr (own_w hw 139 rfl)) own_lm_441 (t := .boolean) (t' := (.object "java/util/List")) own_lm_413 own_lm_104
theorem own_lm_443 : ("primary" : String) ≠ "className" := by decide +kernel
def own_sn_444 {Z : State} {a0 : Array Value} (hw : own_H a0 Z) := slot_ne (Or.inl (own_w hw 225 rfl)) (Or.inl (own_w hw 141 rfl)) own_lm_443 (t := .boolean) (t' := (.object "java/lang/String")) own_lm_413 own_lm_319
theorem own_lm_445 : ("scope" : String) ≠ "qualifiers" := by decide +kernel
def own_sn_446 {Z : State} {a0 : Array Value} (hw : own_H a0 Z) := slot_ne (Or.inl (own_w hw 227 rfl)) (Or.inl (own_w hw 40 rfl)) own_lm_445 (t := (.object "java/lang/String")) (t' := (.object "java/util/List")) own_lm_319 own_lm_104
theorem own_lm_447 : ("scope" : String) ≠ "dependsOn" := by decide +kernel
def own_sn_448 {Z : State} {a0 : Array Value} (hw : own_H a0 Z) := slot_ne (Or.inl (own_w hw 227 rfl)) (Or.inl (own_w hw 42 rfl)) own_lm_447 (t := (.object "java/lang/String")) (t' := (.object "java/util/List")) own_lm_319 own_lm_104
theorem own_lm_449 : ("scope" : String) ≠ "constructorArguments" := by decide +kernel
def own_sn_450 {Z : State} {a0 : Array Value} (hw : own_H a0 Z) := slot_ne (Or.inl (own_w hw 227 rfl)) (Or.inr (own_w hw 68 rfl)) own_lm_449 (t := (.object "java/lang/String")) (t' := (.object "java/util/List")) own_lm_319 own_lm_104
theorem own_lm_451 : ("scope" : String) ≠ "constructorArgumentsView" := by decide +kernel
def own_sn_452 {Z : State} {a0 : Array Value} (hw : own_H a0 Z) := slot_ne (Or.inl (own_w hw 227 rfl)) (Or.inr (own_w hw 113 rfl)) own_lm_451 (t := (.object "java/lang/String")) (t' := (.object "java/util/List")) own_lm_319 own_lm_104
theorem own_lm_453 : ("scope" : String) ≠ "propertyValues" := by decide +kernel
def own_sn_454 {Z : State} {a0 : Array Value} (hw : own_H a0 Z) := slot_ne (Or.inl (own_w hw 227 rfl)) (Or.inr (own_w hw 115 rfl)) own_lm_453 (t := (.object "java/lang/String")) (t' := (.object "java/util/List")) own_lm_319 own_lm_104
theorem own_lm_455 : ("scope" : String) ≠ "propertyValuesView" := by decide +kernel
def own_sn_456 {Z : State} {a0 : Array Value} (hw : own_H a0 Z) := slot_ne (Or.inl (own_w hw 227 rfl)) (Or.inr (own_w hw 117 rfl)) own_lm_455 (t := (.object "java/lang/String")) (t' := (.object "java/util/List")) own_lm_319 own_lm_104
theorem own_lm_457 : ("scope" : String) ≠ "watchers" := by decide +kernel
def own_sn_458 {Z : State} {a0 : Array Value} (hw : own_H a0 Z) := slot_ne (Or.inl (own_w hw 227 rfl)) (Or.inr (own_w hw 139 rfl)) own_lm_457 (t := (.object "java/lang/String")) (t' := (.object "java/util/List")) own_lm_319 own_lm_104
theorem own_lm_459 : ("scope" : String) ≠ "className" := by decide +kernel
def own_sn_460 {Z : State} {a0 : Array Value} (hw : own_H a0 Z) := slot_ne (Or.inl (own_w hw 227 rfl)) (Or.inl (own_w hw 141 rfl)) own_lm_459 (t := (.object "java/lang/String")) (t' := (.object "java/lang/String")) own_lm_319 own_lm_319
theorem own_lm_461 : ("lazyInit" : String) ≠ "qualifiers" := by decide +kernel
theorem own_lm_462 : parseFieldDescriptor "Ljava/lang/Boolean;" = some (.object "java/lang/Boolean") := by decide +kernel
def own_sn_463 {Z : State} {a0 : Array Value} (hw : own_H a0 Z) := slot_ne (Or.inl (own_w hw 229 rfl)) (Or.inl (own_w hw 40 rfl)) own_lm_461 (t := (.object "java/lang/Boolean")) (t' := (.object "java/util/List")) own_lm_462 own_lm_104
theorem own_lm_464 : ("lazyInit" : String) ≠ "dependsOn" := by decide +kernel
def own_sn_465 {Z : State} {a0 : Array Value} (hw : own_H a0 Z) := slot_ne (Or.inl (own_w hw 229 rfl)) (Or.inl (own_w hw 42 rfl)) own_lm_464 (t := (.object "java/lang/Boolean")) (t' := (.object "java/util/List")) own_lm_462 own_lm_104
theorem own_lm_466 : ("lazyInit" : String) ≠ "constructorArguments" := by decide +kernel
def own_sn_467 {Z : State} {a0 : Array Value} (hw : own_H a0 Z) := slot_ne (Or.inl (own_w hw 229 rfl)) (Or.inr (own_w hw 68 rfl)) own_lm_466 (t := (.object "java/lang/Boolean")) (t' := (.object "java/util/List")) own_lm_462 own_lm_104
theorem own_lm_468 : ("lazyInit" : String) ≠ "constructorArgumentsView" := by decide +kernel
def own_sn_469 {Z : State} {a0 : Array Value} (hw : own_H a0 Z) := slot_ne (Or.inl (own_w hw 229 rfl)) (Or.inr (own_w hw 113 rfl)) own_lm_468 (t := (.object "java/lang/Boolean")) (t' := (.object "java/util/List")) own_lm_462 own_lm_104
theorem own_lm_470 : ("lazyInit" : String) ≠ "propertyValues" := by decide +kernel
def own_sn_471 {Z : State} {a0 : Array Value} (hw : own_H a0 Z) := slot_ne (Or.inl (own_w hw 229 rfl)) (Or.inr (own_w hw 115 rfl)) own_lm_470 (t := (.object "java/lang/Boolean")) (t' := (.object "java/util/List")) own_lm_462 own_lm_104
theorem own_lm_472 : ("lazyInit" : String) ≠ "propertyValuesView" := by decide +kernel
def own_sn_473 {Z : State} {a0 : Array Value} (hw : own_H a0 Z) := slot_ne (Or.inl (own_w hw 229 rfl)) (Or.inr (own_w hw 117 rfl)) own_lm_472 (t := (.object "java/lang/Boolean")) (t' := (.object "java/util/List")) own_lm_462 own_lm_104
theorem own_lm_474 : ("lazyInit" : String) ≠ "watchers" := by decide +kernel
def own_sn_475 {Z : State} {a0 : Array Value} (hw : own_H a0 Z) := slot_ne (Or.inl (own_w hw 229 rfl)) (Or.inr (own_w hw 139 rfl)) own_lm_474 (t := (.object "java/lang/Boolean")) (t' := (.object "java/util/List")) own_lm_462 own_lm_104
theorem own_lm_476 : ("lazyInit" : String) ≠ "className" := by decide +kernel
def own_sn_477 {Z : State} {a0 : Array Value} (hw : own_H a0 Z) := slot_ne (Or.inl (own_w hw 229 rfl)) (Or.inl (own_w hw 141 rfl)) own_lm_476 (t := (.object "java/lang/Boolean")) (t' := (.object "java/lang/String")) own_lm_462 own_lm_319
theorem own_lm_478 : ("factoryBeanName" : String) ≠ "qualifiers" := by decide +kernel
def own_sn_479 {Z : State} {a0 : Array Value} (hw : own_H a0 Z) := slot_ne (Or.inl (own_w hw 233 rfl)) (Or.inl (own_w hw 40 rfl)) own_lm_478 (t := (.object "java/lang/String")) (t' := (.object "java/util/List")) own_lm_319 own_lm_104
theorem own_lm_480 : ("factoryBeanName" : String) ≠ "dependsOn" := by decide +kernel
def own_sn_481 {Z : State} {a0 : Array Value} (hw : own_H a0 Z) := slot_ne (Or.inl (own_w hw 233 rfl)) (Or.inl (own_w hw 42 rfl)) own_lm_480 (t := (.object "java/lang/String")) (t' := (.object "java/util/List")) own_lm_319 own_lm_104
theorem own_lm_482 : ("factoryBeanName" : String) ≠ "constructorArguments" := by decide +kernel
def own_sn_483 {Z : State} {a0 : Array Value} (hw : own_H a0 Z) := slot_ne (Or.inl (own_w hw 233 rfl)) (Or.inr (own_w hw 68 rfl)) own_lm_482 (t := (.object "java/lang/String")) (t' := (.object "java/util/List")) own_lm_319 own_lm_104
theorem own_lm_484 : ("factoryBeanName" : String) ≠ "constructorArgumentsView" := by decide +kernel
def own_sn_485 {Z : State} {a0 : Array Value} (hw : own_H a0 Z) := slot_ne (Or.inl (own_w hw 233 rfl)) (Or.inr (own_w hw 113 rfl)) own_lm_484 (t := (.object "java/lang/String")) (t' := (.object "java/util/List")) own_lm_319 own_lm_104
theorem own_lm_486 : ("factoryBeanName" : String) ≠ "propertyValues" := by decide +kernel
def own_sn_487 {Z : State} {a0 : Array Value} (hw : own_H a0 Z) := slot_ne (Or.inl (own_w hw 233 rfl)) (Or.inr (own_w hw 115 rfl)) own_lm_486 (t := (.object "java/lang/String")) (t' := (.object "java/util/List")) own_lm_319 own_lm_104
theorem own_lm_488 : ("factoryBeanName" : String) ≠ "propertyValuesView" := by decide +kernel
def own_sn_489 {Z : State} {a0 : Array Value} (hw : own_H a0 Z) := slot_ne (Or.inl (own_w hw 233 rfl)) (Or.inr (own_w hw 117 rfl)) own_lm_488 (t := (.object "java/lang/String")) (t' := (.object "java/util/List")) own_lm_319 own_lm_104
theorem own_lm_490 : ("factoryBeanName" : String) ≠ "watchers" := by decide +kernel
def own_sn_491 {Z : State} {a0 : Array Value} (hw : own_H a0 Z) := slot_ne (Or.inl (own_w hw 233 rfl)) (Or.inr (own_w hw 139 rfl)) own_lm_490 (t := (.object "java/lang/String")) (t' := (.object "java/util/List")) own_lm_319 own_lm_104
theorem own_lm_492 : ("factoryBeanName" : String) ≠ "className" := by decide +kernel
def own_sn_493 {Z : State} {a0 : Array Value} (hw : own_H a0 Z) := slot_ne (Or.inl (own_w hw 233 rfl)) (Or.inl (own_w hw 141 rfl)) own_lm_492 (t := (.object "java/lang/String")) (t' := (.object "java/lang/String")) own_lm_319 own_lm_319
theorem own_lm_494 : ("factoryMethodName" : String) ≠ "qualifiers" := by decide +kernel
def own_sn_495 {Z : State} {a0 : Array Value} (hw : own_H a0 Z) := slot_ne (Or.inl (own_w hw 235 rfl)) (Or.inl (own_w hw 40 rfl)) own_lm_494 (t := (.object "java/lang/String")) (t' := (.object "java/util/List")) own_lm_319 own_lm_104
theorem own_lm_496 : ("factoryMethodName" : String) ≠ "dependsOn" := by decide +kernel
def own_sn_497 {Z : State} {a0 : Array Value} (hw : own_H a0 Z) := slot_ne (Or.inl (own_w hw 235 rfl)) (Or.inl (own_w hw 42 rfl)) own_lm_496 (t := (.object "java/lang/String")) (t' := (.object "java/util/List")) own_lm_319 own_lm_104
theorem own_lm_498 : ("factoryMethodName" : String) ≠ "constructorArguments" := by decide +kernel
def own_sn_499 {Z : State} {a0 : Array Value} (hw : own_H a0 Z) := slot_ne (Or.inl (own_w hw 235 rfl)) (Or.inr (own_w hw 68 rfl)) own_lm_498 (t := (.object "java/lang/String")) (t' := (.object "java/util/List")) own_lm_319 own_lm_104
theorem own_lm_500 : ("factoryMethodName" : String) ≠ "constructorArgumentsView" := by decide +kernel
def own_sn_501 {Z : State} {a0 : Array Value} (hw : own_H a0 Z) := slot_ne (Or.inl (own_w hw 235 rfl)) (Or.inr (own_w hw 113 rfl)) own_lm_500 (t := (.object "java/lang/String")) (t' := (.object "java/util/List")) own_lm_319 own_lm_104
theorem own_lm_502 : ("factoryMethodName" : String) ≠ "propertyValues" := by decide +kernel
def own_sn_503 {Z : State} {a0 : Array Value} (hw : own_H a0 Z) := slot_ne (Or.inl (own_w hw 235 rfl)) (Or.inr (own_w hw 115 rfl)) own_lm_502 (t := (.object "java/lang/String")) (t' := (.object "java/util/List")) own_lm_319 own_lm_104
theorem own_lm_504 : ("factoryMethodName" : String) ≠ "propertyValuesView" := by decide +kernel
def own_sn_505 {Z : State} {a0 : Array Value} (hw : own_H a0 Z) := slot_ne (Or.inl (own_w hw 235 rfl)) (Or.inr (own_w hw 117 rfl)) own_lm_504 (t := (.object "java/lang/String")) (t' := (.object "java/util/List")) own_lm_319 own_lm_104
theorem own_lm_506 : ("factoryMethodName" : String) ≠ "watchers" := by decide +kernel
def own_sn_507 {Z : State} {a0 : Array Value} (hw : own_H a0 Z) := slot_ne (Or.inl (own_w hw 235 rfl)) (Or.inr (own_w hw 139 rfl)) own_lm_506 (t := (.object "java/lang/String")) (t' := (.object "java/util/List")) own_lm_319 own_lm_104
theorem own_lm_508 : ("factoryMethodName" : String) ≠ "className" := by decide +kernel
def own_sn_509 {Z : State} {a0 : Array Value} (hw : own_H a0 Z) := slot_ne (Or.inl (own_w hw 235 rfl)) (Or.inl (own_w hw 141 rfl)) own_lm_508 (t := (.object "java/lang/String")) (t' := (.object "java/lang/String")) own_lm_319 own_lm_319
theorem own_lm_510 : ("initMethodName" : String) ≠ "qualifiers" := by decide +kernel
def own_sn_511 {Z : State} {a0 : Array Value} (hw : own_H a0 Z) := slot_ne (Or.inl (own_w hw 324 rfl)) (Or.inl (own_w hw 40 rfl)) own_lm_510 (t := (.object "java/lang/String")) (t' := (.object "java/util/List")) own_lm_319 own_lm_104
theorem own_lm_512 : ("initMethodName" : String) ≠ "dependsOn" := by decide +kernel
def own_sn_513 {Z : State} {a0 : Array Value} (hw : own_H a0 Z) := slot_ne (Or.inl (own_w hw 324 rfl)) (Or.inl (own_w hw 42 rfl)) own_lm_512 (t := (.object "java/lang/String")) (t' := (.object "java/util/List")) own_lm_319 own_lm_104
theorem own_lm_514 : ("initMethodName" : String) ≠ "constructorArguments" := by decide +kernel
def own_sn_515 {Z : State} {a0 : Array Value} (hw : own_H a0 Z) := slot_ne (Or.inl (own_w hw 324 rfl)) (Or.inr (own_w hw 68 rfl)) own_lm_514 (t := (.object "java/lang/String")) (t' := (.object "java/util/List")) own_lm_319 own_lm_104
theorem own_lm_516 : ("initMethodName" : String) ≠ "constructorArgumentsView" := by decide +kernel
def own_sn_517 {Z : State} {a0 : Array Value} (hw : own_H a0 Z) := slot_ne (Or.inl (own_w hw 324 rfl)) (Or.inr (own_w hw 113 rfl)) own_lm_516 (t := (.object "java/lang/String")) (t' := (.object "java/util/List")) own_lm_319 own_lm_104
theorem own_lm_518 : ("initMethodName" : String) ≠ "propertyValues" := by decide +kernel
def own_sn_519 {Z : State} {a0 : Array Value} (hw : own_H a0 Z) := slot_ne (Or.inl (own_w hw 324 rfl)) (Or.inr (own_w hw 115 rfl)) own_lm_518 (t := (.object "java/lang/String")) (t' := (.object "java/util/List")) own_lm_319 own_lm_104
theorem own_lm_520 : ("initMethodName" : String) ≠ "propertyValuesView" := by decide +kernel
def own_sn_521 {Z : State} {a0 : Array Value} (hw : own_H a0 Z) := slot_ne (Or.inl (own_w hw 324 rfl)) (Or.inr (own_w hw 117 rfl)) own_lm_520 (t := (.object "java/lang/String")) (t' := (.object "java/util/List")) own_lm_319 own_lm_104
theorem own_lm_522 : ("initMethodName" : String) ≠ "watchers" := by decide +kernel
def own_sn_523 {Z : State} {a0 : Array Value} (hw : own_H a0 Z) := slot_ne (Or.inl (own_w hw 324 rfl)) (Or.inr (own_w hw 139 rfl)) own_lm_522 (t := (.object "java/lang/String")) (t' := (.object "java/util/List")) own_lm_319 own_lm_104
theorem own_lm_524 : ("initMethodName" : String) ≠ "className" := by decide +kernel
def own_sn_525 {Z : State} {a0 : Array Value} (hw : own_H a0 Z) := slot_ne (Or.inl (own_w hw 324 rfl)) (Or.inl (own_w hw 141 rfl)) own_lm_524 (t := (.object "java/lang/String")) (t' := (.object "java/lang/String")) own_lm_319 own_lm_319
theorem own_lm_526 : ("destroyMethodName" : String) ≠ "qualifiers" := by decide +kernel
def own_sn_527 {Z : State} {a0 : Array Value} (hw : own_H a0 Z) := slot_ne (Or.inl (own_w hw 326 rfl)) (Or.inl (own_w hw 40 rfl)) own_lm_526 (t := (.object "java/lang/String")) (t' := (.object "java/util/List")) own_lm_319 own_lm_104
theorem own_lm_528 : ("destroyMethodName" : String) ≠ "dependsOn" := by decide +kernel
def own_sn_529 {Z : State} {a0 : Array Value} (hw : own_H a0 Z) := slot_ne (Or.inl (own_w hw 326 rfl)) (Or.inl (own_w hw 42 rfl)) own_lm_528 (t := (.object "java/lang/String")) (t' := (.object "java/util/List")) own_lm_319 own_lm_104
theorem own_lm_530 : ("destroyMethodName" : String) ≠ "constructorArguments" := by decide +kernel
def own_sn_531 {Z : State} {a0 : Array Value} (hw : own_H a0 Z) := slot_ne (Or.inl (own_w hw 326 rfl)) (Or.inr (own_w hw 68 rfl)) own_lm_530 (t := (.object "java/lang/String")) (t' := (.object "java/util/List")) own_lm_319 own_lm_104
theorem own_lm_532 : ("destroyMethodName" : String) ≠ "constructorArgumentsView" := by decide +kernel
def own_sn_533 {Z : State} {a0 : Array Value} (hw : own_H a0 Z) := slot_ne (Or.inl (own_w hw 326 rfl)) (Or.inr (own_w hw 113 rfl)) own_lm_532 (t := (.object "java/lang/String")) (t' := (.object "java/util/List")) own_lm_319 own_lm_104
theorem own_lm_534 : ("destroyMethodName" : String) ≠ "propertyValues" := by decide +kernel
def own_sn_535 {Z : State} {a0 : Array Value} (hw : own_H a0 Z) := slot_ne (Or.inl (own_w hw 326 rfl)) (Or.inr (own_w hw 115 rfl)) own_lm_534 (t := (.object "java/lang/String")) (t' := (.object "java/util/List")) own_lm_319 own_lm_104
theorem own_lm_536 : ("destroyMethodName" : String) ≠ "propertyValuesView" := by decide +kernel
def own_sn_537 {Z : State} {a0 : Array Value} (hw : own_H a0 Z) := slot_ne (Or.inl (own_w hw 326 rfl)) (Or.inr (own_w hw 117 rfl)) own_lm_536 (t := (.object "java/lang/String")) (t' := (.object "java/util/List")) own_lm_319 own_lm_104
theorem own_lm_538 : ("destroyMethodName" : String) ≠ "watchers" := by decide +kernel
def own_sn_539 {Z : State} {a0 : Array Value} (hw : own_H a0 Z) := slot_ne (Or.inl (own_w hw 326 rfl)) (Or.inr (own_w hw 139 rfl)) own_lm_538 (t := (.object "java/lang/String")) (t' := (.object "java/util/List")) own_lm_319 own_lm_104
theorem own_lm_540 : ("destroyMethodName" : String) ≠ "className" := by decide +kernel
def own_sn_541 {Z : State} {a0 : Array Value} (hw : own_H a0 Z) := slot_ne (Or.inl (own_w hw 326 rfl)) (Or.inl (own_w hw 141 rfl)) own_lm_540 (t := (.object "java/lang/String")) (t' := (.object "java/lang/String")) own_lm_319 own_lm_319
theorem own_lm_542 : ("origin" : String) ≠ "qualifiers" := by decide +kernel
def own_sn_543 {Z : State} {a0 : Array Value} (hw : own_H a0 Z) := slot_ne (Or.inl (own_w hw 328 rfl)) (Or.inl (own_w hw 40 rfl)) own_lm_542 (t := (.object "java/lang/String")) (t' := (.object "java/util/List")) own_lm_319 own_lm_104
theorem own_lm_544 : ("origin" : String) ≠ "dependsOn" := by decide +kernel
def own_sn_545 {Z : State} {a0 : Array Value} (hw : own_H a0 Z) := slot_ne (Or.inl (own_w hw 328 rfl)) (Or.inl (own_w hw 42 rfl)) own_lm_544 (t := (.object "java/lang/String")) (t' := (.object "java/util/List")) own_lm_319 own_lm_104
theorem own_lm_546 : ("origin" : String) ≠ "constructorArguments" := by decide +kernel
def own_sn_547 {Z : State} {a0 : Array Value} (hw : own_H a0 Z) := slot_ne (Or.inl (own_w hw 328 rfl)) (Or.inr (own_w hw 68 rfl)) own_lm_546 (t := (.object "java/lang/String")) (t' := (.object "java/util/List")) own_lm_319 own_lm_104
theorem own_lm_548 : ("origin" : String) ≠ "constructorArgumentsView" := by decide +kernel
def own_sn_549 {Z : State} {a0 : Array Value} (hw : own_H a0 Z) := slot_ne (Or.inl (own_w hw 328 rfl)) (Or.inr (own_w hw 113 rfl)) own_lm_548 (t := (.object "java/lang/String")) (t' := (.object "java/util/List")) own_lm_319 own_lm_104
theorem own_lm_550 : ("origin" : String) ≠ "propertyValues" := by decide +kernel
def own_sn_551 {Z : State} {a0 : Array Value} (hw : own_H a0 Z) := slot_ne (Or.inl (own_w hw 328 rfl)) (Or.inr (own_w hw 115 rfl)) own_lm_550 (t := (.object "java/lang/String")) (t' := (.object "java/util/List")) own_lm_319 own_lm_104
theorem own_lm_552 : ("origin" : String) ≠ "propertyValuesView" := by decide +kernel
def own_sn_553 {Z : State} {a0 : Array Value} (hw : own_H a0 Z) := slot_ne (Or.inl (own_w hw 328 rfl)) (Or.inr (own_w hw 117 rfl)) own_lm_552 (t := (.object "java/lang/String")) (t' := (.object "java/util/List")) own_lm_319 own_lm_104
theorem own_lm_554 : ("origin" : String) ≠ "watchers" := by decide +kernel
def own_sn_555 {Z : State} {a0 : Array Value} (hw : own_H a0 Z) := slot_ne (Or.inl (own_w hw 328 rfl)) (Or.inr (own_w hw 139 rfl)) own_lm_554 (t := (.object "java/lang/String")) (t' := (.object "java/util/List")) own_lm_319 own_lm_104
theorem own_lm_556 : ("origin" : String) ≠ "className" := by decide +kernel
def own_sn_557 {Z : State} {a0 : Array Value} (hw : own_H a0 Z) := slot_ne (Or.inl (own_w hw 328 rfl)) (Or.inl (own_w hw 141 rfl)) own_lm_556 (t := (.object "java/lang/String")) (t' := (.object "java/lang/String")) own_lm_319 own_lm_319
abbrev own_y_558 : MethodName := ⟨"com/example/temanggung/temanggung/beans/factory/BeanDefinition", "<init>", "(Ljava/lang/String;)V"⟩
theorem own_ef_rmBI (m : MethodId) (a : Addr) (cn : Value) (hcn : cn.isRef = true) : entryFrame m #[(.ref a), cn] 2 = mkF m 0 #[.val (.ref a), .val cn] [] := by rcases ref_cases hcn with rfl | ⟨_, rfl⟩ <;> first | (simp [entryFrame, mkF, argsToLocals, Value.category, maxLocals]; done) | rfl
abbrev own_c_559 : String := "Lcom/example/temanggung/temanggung/beans/factory/Autowire;"
abbrev own_c_560 : String := "Lcom/example/temanggung/temanggung/beans/factory/DefinedValue;"
def QrmBI (Z : State) (w0 w1 w2 w3 wl wle wd mAL mUL mUR mOA : Addr) (wcs : Int32) (kle kd : ClassId) (a : Addr) (cn : Value) (h0 : Heap) (n0 : Nat) (v : Option Value) (h : Heap) (L : List Loc) : Prop := ∃ ca : Addr, ∃ pv : Addr, ∃ wt : Addr, ∃ ar : Addr, ∃ kr : ClassId, v = none ∧ Fr n0 L ∧ Keep h0 h [a] ∧ h0.size ≤ ca ∧ h0.size ≤ pv ∧ h0.size ≤ wt ∧ h0.size ≤ ar ∧ Exa Z h a own_c_235 ∧ Fld Z h a own_c_235 "qualifiers" "Ljava/util/List;" (.ref wl) ∧ Fld Z h a own_c_235 "dependsOn" "Ljava/util/List;" (.ref wl) ∧ Fld Z h a own_c_235 "constructorArguments" "Ljava/util/List;" (.ref ca) ∧ Fld Z h a own_c_235 "propertyValues" "Ljava/util/List;" (.ref pv) ∧ Fld Z h a own_c_235 "watchers" "Ljava/util/List;" (.ref wt) ∧ Fld Z h a own_c_235 "className" "Ljava/lang/String;" cn ∧ Fld Z h a own_c_235 "autowire" own_c_559 .null ∧ Fld Z h a own_c_235 "value" own_c_560 .null ∧ Fld Z h a own_c_235 "abstractDefinition" "Z" (.int (0 : Int32)) ∧ Fld Z h a own_c_235 "primary" "Z" (.int (0 : Int32)) ∧ Fld Z h a own_c_235 "scope" "Ljava/lang/String;" .null ∧ Fld Z h a own_c_235 "lazyInit" "Ljava/lang/Boolean;" .null ∧ Fld Z h a own_c_235 "factoryBeanName" "Ljava/lang/String;" .null ∧ Fld Z h a own_c_235 "factoryMethodName" "Ljava/lang/String;" .null ∧ Fld Z h a own_c_235 "initMethodName" "Ljava/lang/String;" .null ∧ Fld Z h a own_c_235 "destroyMethodName" "Ljava/lang/String;" .null ∧ Fld Z h a own_c_235 "origin" "Ljava/lang/String;" .null ∧ Exa Z h ca "java/util/ArrayList" ∧ Fld Z h ca own_c_70 "modCount" "I" (.int (0 : Int32)) ∧ Fld Z h ca "java/util/ArrayList" "size" "I" (.int (0 : Int32)) ∧ Fld Z h ca "java/util/ArrayList" "elementData" "[Ljava/lang/Object;" (.ref wd) ∧ Exa Z h pv "java/util/ArrayList" ∧ Fld Z h pv own_c_70 "modCount" "I" (.int (0 : Int32)) ∧ Fld Z h pv "java/util/ArrayList" "size" "I" (.int (0 : Int32)) ∧ Fld Z h pv "java/util/ArrayList" "elementData" "[Ljava/lang/Object;" (.ref wd) ∧ Exa Z h wt own_c_157 ∧ Fld Z h wt own_c_157 "array" "[Ljava/lang/Object;" (.ref ar) ∧ Arv Z h ar kr (.object "java/lang/Object") (0 : Int32) [] .null ∧ Exa Z h ar "[Ljava/lang/Object;" ∧ ca ≠ pv
set_option maxRecDepth 65536 in
set_option maxHeartbeats 40000000 in
theorem rmBI (l : Launch) (Z : State) (a0 : Array Value) (hw : own_H a0 Z) (ws : List Jvm.Cond) (w0 w1 w2 w3 wl wle wd mAL mUL mUR mOA : Addr) (wcs : Int32) (kle kd : ClassId) (hS : own_S Z w0 w1 w2 w3 wl wle wd mAL mUL mUR mOA wcs kle kd) (a : Addr) (cn : Value) (h0 : Heap) (n0 : Nat) (O0 : Old Z n0 h0) (ga : n0 ≤ a) (hcn : cn.isRef = true) (NB0 : Exa Z h0 a own_c_235) (NB1 : Fld Z h0 a own_c_235 "qualifiers" "Ljava/util/List;" .null) (NB2 : Fld Z h0 a own_c_235 "dependsOn" "Ljava/util/List;" .null) (NB3 : Fld Z h0 a own_c_235 "constructorArguments" "Ljava/util/List;" .null) (NB4 : Fld Z h0 a own_c_235 "constructorArgumentsView" "Ljava/util/List;" .null) (NB5 : Fld Z h0 a own_c_235 "propertyValues" "Ljava/util/List;" .null) (NB6 : Fld Z h0 a own_c_235 "propertyValuesView" "Ljava/util/List;" .null) (NB7 : Fld Z h0 a own_c_235 "watchers" "Ljava/util/List;" .null) (NB8 : Fld Z h0 a own_c_235 "className" "Ljava/lang/String;" .null) (NB9 : Fld Z h0 a own_c_235 "autowire" own_c_559 .null) (NB10 : Fld Z h0 a own_c_235 "value" own_c_560 .null) (NB11 : Fld Z h0 a own_c_235 "abstractDefinition" "Z" (.int (0 : Int32))) (NB12 : Fld Z h0 a own_c_235 "primary" "Z" (.int (0 : Int32))) (NB13 : Fld Z h0 a own_c_235 "scope" "Ljava/lang/String;" .null) (NB14 : Fld Z h0 a own_c_235 "lazyInit" "Ljava/lang/Boolean;" .null) (NB15 : Fld Z h0 a own_c_235 "factoryBeanName" "Ljava/lang/String;" .null) (NB16 : Fld Z h0 a own_c_235 "factoryMethodName" "Ljava/lang/String;" .null) (NB17 : Fld Z h0 a own_c_235 "initMethodName" "Ljava/lang/String;" .null) (NB18 : Fld Z h0 a own_c_235 "destroyMethodName" "Ljava/lang/String;" .null) (NB19 : Fld Z h0 a own_c_235 "origin" "Ljava/lang/String;" .null) :
    own_Met l own_y_558 prog_17_method_1_code 2 none ws ({ frames := 5, cells := 7, slots := 12, locals := 65 } : Room) Z h0 #[(.ref a), cn] (QrmBI Z w0 w1 w2 w3 wl wle wd mAL mUL mUR mOA wcs kle kd a cn h0 n0) := by
  refine own_body (plainFor_of_name own_pn_234) ?_
  intro p e s m below meth c s₁ hx hby hml hown hnm hret hlk hZ e0 X0
  have N0 := Fr.nil n0
  refine own_st (fun u_ k_ => castTop (own_ef_rmBI m a cn hcn) k_) ?_
  show own_Go p e below _ (s₁.setTop (mkF m 0 #[.val (.ref a), .val cn] []))
  refine own_st (fun u_ k_ => XS.aloadN X0.here hx rfl (hb hby own_d_prog_17_1_0) rfl rfl k_) ?_
  obtain ⟨T161, X161, e161, st161⟩ := initO X0 hx hZ hown (own_w hw 32 rfl) (own_w hw 20 rfl) (own_w hw 21 rfl) e0 (g := (mkF m 1 #[.val (.ref a), .val cn] [(.ref a)])) rfl (by rw [hml]; rfl) rfl (hb hby own_d_prog_17_1_1) (by decide) (W := 0) (by show 2 * 0 + _ ≤ _; exact Nat.le_of_eq rfl) (by decide)
  refine own_st (fun u_ k_ => st161 u_ k_) ?_
  show own_Go p e below _ (T161.setTop (mkF m 4 #[.val (.ref a), .val cn] []))
  refine own_st (fun u_ k_ => XS.aloadN X161.here hx rfl (hb hby own_d_prog_17_1_4) rfl rfl k_) ?_
  obtain ⟨T162, v162, L162, X162, hQ162, st162⟩ := own_callS X161 hx hZ (y := own_y_55) hown (own_w hw 33 rfl) (own_w hw 34 rfl) (own_w hw 35 rfl) (own_w hw 36 rfl) own_lm_132 (rmLO l Z a0 hw [] w0 w1 w2 w3 wl wle wd mAL mUL mUR mOA wcs kle kd hS  h0 n0 O0 ) e161 own_pd_240 (argsL := []) (rest := [(.ref a)]) rfl rfl (g := (mkF m 5 #[.val (.ref a), .val cn] [(.ref a)])) rfl (by rw [hml]; rfl) rfl (hb hby own_d_prog_17_1_5) (W := 1) rfl (by decide) (by decide) (by decide) (by decide)
  obtain ⟨rfl, M162, e162⟩ := hQ162
  have N162 := Fr.app N0 M162
  refine own_st (fun u_ k_ => st162 u_ k_) ?_
  show own_Go p e below _ (T162.setTop (mkF m 8 #[.val (.ref a), .val cn] [(.ref wl), (.ref a)]))
  obtain ⟨T163, h163, X163, e163, W163, st163⟩ := putF X162 hx hZ hown (host := "") (Or.inl (own_w hw 39 rfl)) Via.refl e162 NB1 NB0 (Or.inl (own_w hw 40 rfl)) (own_w hw 27 rfl) (ty := (.object "java/util/List")) own_lm_104 rfl rfl (g := (mkF m 8 #[.val (.ref a), .val cn] [(.ref wl), (.ref a)])) rfl rfl (hb hby own_d_prog_17_1_8)
  have N163 := Fr.snoc X163 N162 ga
  have F164 : Fld Z h163 a own_c_235 "qualifiers" "Ljava/util/List;" (.ref wl) := Fld.same W163 NB1
  refine own_st (fun u_ k_ => st163 u_ k_) ?_
  show own_Go p e below _ (T163.setTop (mkF m 11 #[.val (.ref a), .val cn] []))
  refine own_st (fun u_ k_ => XS.aloadN X163.here hx rfl (hb hby own_d_prog_17_1_11) rfl rfl k_) ?_
  have O166 : Old Z n0 h163 := O0.wr W163 ga
  obtain ⟨T165, v165, L165, X165, hQ165, st165⟩ := own_callS X163 hx hZ (y := own_y_55) hown (own_w hw 33 rfl) (own_w hw 34 rfl) (own_w hw 35 rfl) (own_w hw 36 rfl) own_lm_132 (rmLO l Z a0 hw [] w0 w1 w2 w3 wl wle wd mAL mUL mUR mOA wcs kle kd hS  h163 n0 O166 ) e163 own_pd_240 (argsL := []) (rest := [(.ref a)]) rfl rfl (g := (mkF m 12 #[.val (.ref a), .val cn] [(.ref a)])) rfl (by rw [hml]; rfl) rfl (hb hby own_d_prog_17_1_12) (W := 1) rfl (by decide) (by decide) (by decide) (by decide)
  obtain ⟨rfl, M165, e165⟩ := hQ165
  have N165 := Fr.app N163 M165
  refine own_st (fun u_ k_ => st165 u_ k_) ?_
  show own_Go p e below _ (T165.setTop (mkF m 15 #[.val (.ref a), .val cn] [(.ref wl), (.ref a)]))
  have F167 := (Exa.wr W163 NB0)
  have F168 := (Fld.other W163 NB2 (Or.inr (own_sn_246 hw)))
  obtain ⟨T169, h169, X169, e169, W169, st169⟩ := putF X165 hx hZ hown (host := "") (Or.inl (own_w hw 41 rfl)) Via.refl e165 F168 F167 (Or.inl (own_w hw 42 rfl)) (own_w hw 27 rfl) (ty := (.object "java/util/List")) own_lm_104 rfl rfl (g := (mkF m 15 #[.val (.ref a), .val cn] [(.ref wl), (.ref a)])) rfl rfl (hb hby own_d_prog_17_1_15)
  have N169 := Fr.snoc X169 N165 ga
  have F170 : Fld Z h169 a own_c_235 "dependsOn" "Ljava/util/List;" (.ref wl) := Fld.same W169 F168
  refine own_st (fun u_ k_ => st169 u_ k_) ?_
  show own_Go p e below _ (T169.setTop (mkF m 18 #[.val (.ref a), .val cn] []))
  refine own_st (fun u_ k_ => XS.aloadN X169.here hx rfl (hb hby own_d_prog_17_1_18) rfl rfl k_) ?_
  obtain ⟨T171, h171, X171, e171, E171, A171, D171, U171, st171⟩ := newO X169 hx hZ hown (own_w hw 43 rfl) (own_w hw 44 rfl) (own_w hw 45 rfl) e169 (g := (mkF m 19 #[.val (.ref a), .val cn] [(.ref a)])) rfl (hb hby own_d_prog_17_1_19) (by decide) (by decide)
  obtain ⟨b171, g171⟩ : ∃ z, z = h169.size := ⟨_, rfl⟩
  rw [← g171] at A171 D171 U171 st171
  have F171_modCount : Fld Z h171 b171 own_c_70 "modCount" "I" (.int (0 : Int32)) := D171 (Or.inl (own_w hw 63 rfl)) (ty := .int) own_lm_69
  have F171_elementData : Fld Z h171 b171 "java/util/ArrayList" "elementData" "[Ljava/lang/Object;" .null := D171 (Or.inl (own_w hw 66 rfl)) (ty := (.array (.object "java/lang/Object"))) own_lm_75
  have F171_size : Fld Z h171 b171 "java/util/ArrayList" "size" "I" (.int (0 : Int32)) := D171 (Or.inl (own_w hw 254 rfl)) (ty := .int) own_lm_69
  refine own_st (fun u_ k_ => st171 u_ k_) ?_
  show own_Go p e below _ (T171.setTop (mkF m 22 #[.val (.ref a), .val cn] [(.ref b171), (.ref a)]))
  refine own_st (fun u_ k_ => XS.dup X171.here hx rfl (hb hby own_d_prog_17_1_22) rfl rfl k_) ?_
  have O173 : Old Z n0 h169 := O166.wr W169 ga
  have g172 : n0 ≤ b171 := Nat.le_trans (own_nl O173) (Nat.le_of_eq g171.symm)
  have O175 : Old Z n0 h171 := O173.ext E171
  obtain ⟨T174, v174, L174, X174, hQ174, st174⟩ := own_callN X171 hx hZ (y := own_y_90) rfl hown (own_w hw 46 rfl) (own_w hw 47 rfl) (own_w hw 45 rfl) (own_w hw 48 rfl) own_lm_251 (rmAL l Z a0 hw [] w0 w1 w2 w3 wl wle wd mAL mUL mUR mOA wcs kle kd hS b171 h171 n0 O175 A171 g172 F171_modCount F171_size F171_elementData) e171 own_pd_65 (a := b171) (argsL := []) (rest := [(.ref b171), (.ref a)]) rfl rfl (g := (mkF m 23 #[.val (.ref a), .val cn] [(.ref b171), (.ref b171), (.ref a)])) rfl (by rw [hml]; rfl) rfl (hb hby own_d_prog_17_1_23) (W := 2) rfl (by decide) (by decide) (by decide) (by decide)
  obtain ⟨rfl, M174, K174, F176, F177, F178, F179⟩ := hQ174
  have N174 := Fr.app N169 M174
  refine own_st (fun u_ k_ => st174 u_ k_) ?_
  show own_Go p e below _ (T174.setTop (mkF m 26 #[.val (.ref a), .val cn] [(.ref b171), (.ref a)]))
  have F180 := ((Exa.ext E171 (Exa.wr W169 F167)).keep K174)
  have ne181 : a ≠ b171 := (Nat.ne_of_lt (Nat.lt_of_lt_of_le F170.lt (Nat.le_of_eq g171.symm)))
  have F182 := ((Fld.ext E171 (Fld.other W169 (Fld.other W163 NB3 (Or.inr (own_sn_254 hw))) (Or.inr (own_sn_256 hw)))).keep K174 (ninS ne181 nin0))
  obtain ⟨T183, h183, X183, e183, W183, st183⟩ := putF X174 hx hZ hown (host := "") (Or.inl (own_w hw 67 rfl)) Via.refl rfl F182 F180 (Or.inr ⟨(own_w hw 68 rfl), rfl, hnm⟩) (own_w hw 27 rfl) (ty := (.object "java/util/List")) own_lm_104 rfl rfl (g := (mkF m 26 #[.val (.ref a), .val cn] [(.ref b171), (.ref a)])) rfl rfl (hb hby own_d_prog_17_1_26)
  have N183 := Fr.snoc X183 N174 ga
  have F184 : Fld Z h183 a own_c_235 "constructorArguments" "Ljava/util/List;" (.ref b171) := Fld.same W183 F182
  refine own_st (fun u_ k_ => st183 u_ k_) ?_
  show own_Go p e below _ (T183.setTop (mkF m 29 #[.val (.ref a), .val cn] []))
  refine own_st (fun u_ k_ => XS.aloadN X183.here hx rfl (hb hby own_d_prog_17_1_29) rfl rfl k_) ?_
  refine own_st (fun u_ k_ => XS.aloadN X183.here hx rfl (hb hby own_d_prog_17_1_30) rfl rfl k_) ?_
  show own_Go p e below _ (T183.setTop (mkF m 31 #[.val (.ref a), .val cn] [(.ref a), (.ref a)]))
  obtain ⟨T185, X185, e185, st185⟩ := getF X183 hx hZ hown (host := "") (Or.inl (own_w hw 67 rfl)) Via.refl e183 F184 (g := (mkF m 31 #[.val (.ref a), .val cn] [(.ref a), (.ref a)])) rfl rfl (hb hby own_d_prog_17_1_31)
  refine own_st (fun u_ k_ => st185 u_ k_) ?_
  show own_Go p e below _ (T185.setTop (mkF m 34 #[.val (.ref a), .val cn] [(.ref b171), (.ref a)]))
  have F186 := (Exa.wr W183 F176)
  have O188 : Old Z n0 T174.heap := O175.keep K174 (allS g172 all0)
  have O189 : Old Z n0 h183 := O188.wr W183 ga
  obtain ⟨T187, v187, L187, X187, hQ187, st187⟩ := own_callS X185 hx hZ (y := own_y_152) hown (own_w hw 69 rfl) (own_w hw 70 rfl) (own_w hw 71 rfl) (own_w hw 72 rfl) own_lm_261 (rmUM l Z a0 hw [] w0 w1 w2 w3 wl wle wd mAL mUL mUR mOA wcs kle kd hS b171 h183 n0 O189 F186) e185 own_pd_262 (argsL := [(.ref b171)]) (rest := [(.ref a)]) rfl rfl (g := (mkF m 34 #[.val (.ref a), .val cn] [(.ref b171), (.ref a)])) rfl (by rw [hml]; rfl) rfl (hb hby own_d_prog_17_1_34) (W := 1) rfl (by decide) (by decide) (by decide) (by decide)
  obtain ⟨r_190, rfl, M187, K187, z191, F192⟩ := hQ187
  have N187 := Fr.app N183 M187
  refine own_st (fun u_ k_ => st187 u_ k_) ?_
  show own_Go p e below _ (T187.setTop (mkF m 37 #[.val (.ref a), .val cn] [(.ref r_190), (.ref a)]))
  have F193 := ((Exa.wr W183 F180).keep K187)
  have F194 := ((Fld.other W183 ((Fld.ext E171 (Fld.other W169 (Fld.other W163 NB4 (Or.inr (own_sn_265 hw))) (Or.inr (own_sn_267 hw)))).keep K174 (ninS ne181 nin0)) (Or.inr (own_sn_269 hw))).keep K187 nin0)
  obtain ⟨T195, h195, X195, e195, W195, st195⟩ := putF X187 hx hZ hown (host := "") (Or.inl (own_w hw 112 rfl)) Via.refl rfl F194 F193 (Or.inr ⟨(own_w hw 113 rfl), rfl, hnm⟩) (own_w hw 27 rfl) (ty := (.object "java/util/List")) own_lm_104 rfl rfl (g := (mkF m 37 #[.val (.ref a), .val cn] [(.ref r_190), (.ref a)])) rfl rfl (hb hby own_d_prog_17_1_37)
  have N195 := Fr.snoc X195 N187 ga
  have F196 : Fld Z h195 a own_c_235 "constructorArgumentsView" "Ljava/util/List;" (.ref r_190) := Fld.same W195 F194
  refine own_st (fun u_ k_ => st195 u_ k_) ?_
  show own_Go p e below _ (T195.setTop (mkF m 40 #[.val (.ref a), .val cn] []))
  refine own_st (fun u_ k_ => XS.aloadN X195.here hx rfl (hb hby own_d_prog_17_1_40) rfl rfl k_) ?_
  obtain ⟨T197, h197, X197, e197, E197, A197, D197, U197, st197⟩ := newO X195 hx hZ hown (own_w hw 43 rfl) (own_w hw 44 rfl) (own_w hw 45 rfl) e195 (g := (mkF m 41 #[.val (.ref a), .val cn] [(.ref a)])) rfl (hb hby own_d_prog_17_1_41) (by decide) (by decide)
  obtain ⟨b197, g197⟩ : ∃ z, z = h195.size := ⟨_, rfl⟩
  rw [← g197] at A197 D197 U197 st197
  have F197_modCount : Fld Z h197 b197 own_c_70 "modCount" "I" (.int (0 : Int32)) := D197 (Or.inl (own_w hw 63 rfl)) (ty := .int) own_lm_69
  have F197_elementData : Fld Z h197 b197 "java/util/ArrayList" "elementData" "[Ljava/lang/Object;" .null := D197 (Or.inl (own_w hw 66 rfl)) (ty := (.array (.object "java/lang/Object"))) own_lm_75
  have F197_size : Fld Z h197 b197 "java/util/ArrayList" "size" "I" (.int (0 : Int32)) := D197 (Or.inl (own_w hw 254 rfl)) (ty := .int) own_lm_69
  refine own_st (fun u_ k_ => st197 u_ k_) ?_
  show own_Go p e below _ (T197.setTop (mkF m 44 #[.val (.ref a), .val cn] [(.ref b197), (.ref a)]))
  refine own_st (fun u_ k_ => XS.dup X197.here hx rfl (hb hby own_d_prog_17_1_44) rfl rfl k_) ?_
  have O199 : Old Z n0 T187.heap := O189.keep K187 all0
  have O200 : Old Z n0 h195 := O199.wr W195 ga
  have g198 : n0 ≤ b197 := Nat.le_trans (own_nl O200) (Nat.le_of_eq g197.symm)
  have O202 : Old Z n0 h197 := O200.ext E197
  obtain ⟨T201, v201, L201, X201, hQ201, st201⟩ := own_callN X197 hx hZ (y := own_y_90) rfl hown (own_w hw 46 rfl) (own_w hw 47 rfl) (own_w hw 45 rfl) (own_w hw 48 rfl) own_lm_251 (rmAL l Z a0 hw [] w0 w1 w2 w3 wl wle wd mAL mUL mUR mOA wcs kle kd hS b197 h197 n0 O202 A197 g198 F197_modCount F197_size F197_elementData) e197 own_pd_65 (a := b197) (argsL := []) (rest := [(.ref b197), (.ref a)]) rfl rfl (g := (mkF m 45 #[.val (.ref a), .val cn] [(.ref b197), (.ref b197), (.ref a)])) rfl (by rw [hml]; rfl) rfl (hb hby own_d_prog_17_1_45) (W := 2) rfl (by decide) (by decide) (by decide) (by decide)
  obtain ⟨rfl, M201, K201, F203, F204, F205, F206⟩ := hQ201
  have N201 := Fr.app N195 M201
  refine own_st (fun u_ k_ => st201 u_ k_) ?_
  show own_Go p e below _ (T201.setTop (mkF m 48 #[.val (.ref a), .val cn] [(.ref b197), (.ref a)]))
  have F207 := ((Exa.ext E197 (Exa.wr W195 F193)).keep K201)
  have ne208 : a ≠ b197 := (Nat.ne_of_lt (Nat.lt_of_lt_of_le F196.lt (Nat.le_of_eq g197.symm)))
  have F209 := ((Fld.ext E197 (Fld.other W195 ((Fld.other W183 ((Fld.ext E171 (Fld.other W169 (Fld.other W163 NB5 (Or.inr (own_sn_276 hw))) (Or.inr (own_sn_278 hw)))).keep K174 (ninS ne181 nin0)) (Or.inr (own_sn_280 hw))).keep K187 nin0) (Or.inr (own_sn_282 hw)))).keep K201 (ninS ne208 nin0))
  obtain ⟨T210, h210, X210, e210, W210, st210⟩ := putF X201 hx hZ hown (host := "") (Or.inl (own_w hw 114 rfl)) Via.refl rfl F209 F207 (Or.inr ⟨(own_w hw 115 rfl), rfl, hnm⟩) (own_w hw 27 rfl) (ty := (.object "java/util/List")) own_lm_104 rfl rfl (g := (mkF m 48 #[.val (.ref a), .val cn] [(.ref b197), (.ref a)])) rfl rfl (hb hby own_d_prog_17_1_48)
  have N210 := Fr.snoc X210 N201 ga
  have F211 : Fld Z h210 a own_c_235 "propertyValues" "Ljava/util/List;" (.ref b197) := Fld.same W210 F209
  refine own_st (fun u_ k_ => st210 u_ k_) ?_
  show own_Go p e below _ (T210.setTop (mkF m 51 #[.val (.ref a), .val cn] []))
  refine own_st (fun u_ k_ => XS.aloadN X210.here hx rfl (hb hby own_d_prog_17_1_51) rfl rfl k_) ?_
  refine own_st (fun u_ k_ => XS.aloadN X210.here hx rfl (hb hby own_d_prog_17_1_52) rfl rfl k_) ?_
  show own_Go p e below _ (T210.setTop (mkF m 53 #[.val (.ref a), .val cn] [(.ref a), (.ref a)]))
  obtain ⟨T212, X212, e212, st212⟩ := getF X210 hx hZ hown (host := "") (Or.inl (own_w hw 114 rfl)) Via.refl e210 F211 (g := (mkF m 53 #[.val (.ref a), .val cn] [(.ref a), (.ref a)])) rfl rfl (hb hby own_d_prog_17_1_53)
  refine own_st (fun u_ k_ => st212 u_ k_) ?_
  show own_Go p e below _ (T212.setTop (mkF m 56 #[.val (.ref a), .val cn] [(.ref b197), (.ref a)]))
  have F213 := (Exa.wr W210 F203)
  have O215 : Old Z n0 T201.heap := O202.keep K201 (allS g198 all0)
  have O216 : Old Z n0 h210 := O215.wr W210 ga
  obtain ⟨T214, v214, L214, X214, hQ214, st214⟩ := own_callS X212 hx hZ (y := own_y_152) hown (own_w hw 69 rfl) (own_w hw 70 rfl) (own_w hw 71 rfl) (own_w hw 72 rfl) own_lm_261 (rmUM l Z a0 hw [] w0 w1 w2 w3 wl wle wd mAL mUL mUR mOA wcs kle kd hS b197 h210 n0 O216 F213) e212 own_pd_262 (argsL := [(.ref b197)]) (rest := [(.ref a)]) rfl rfl (g := (mkF m 56 #[.val (.ref a), .val cn] [(.ref b197), (.ref a)])) rfl (by rw [hml]; rfl) rfl (hb hby own_d_prog_17_1_56) (W := 1) rfl (by decide) (by decide) (by decide) (by decide)
  obtain ⟨r_217, rfl, M214, K214, z218, F219⟩ := hQ214
  have N214 := Fr.app N210 M214
  refine own_st (fun u_ k_ => st214 u_ k_) ?_
  show own_Go p e below _ (T214.setTop (mkF m 59 #[.val (.ref a), .val cn] [(.ref r_217), (.ref a)]))
  have F220 := ((Exa.wr W210 F207).keep K214)
  have F221 := ((Fld.other W210 ((Fld.ext E197 (Fld.other W195 ((Fld.other W183 ((Fld.ext E171 (Fld.other W169 (Fld.other W163 NB6 (Or.inr (own_sn_289 hw))) (Or.inr (own_sn_291 hw)))).keep K174 (ninS ne181 nin0)) (Or.inr (own_sn_293 hw))).keep K187 nin0) (Or.inr (own_sn_295 hw)))).keep K201 (ninS ne208 nin0)) (Or.inr (own_sn_297 hw))).keep K214 nin0)
  obtain ⟨T222, h222, X222, e222, W222, st222⟩ := putF X214 hx hZ hown (host := "") (Or.inl (own_w hw 116 rfl)) Via.refl rfl F221 F220 (Or.inr ⟨(own_w hw 117 rfl), rfl, hnm⟩) (own_w hw 27 rfl) (ty := (.object "java/util/List")) own_lm_104 rfl rfl (g := (mkF m 59 #[.val (.ref a), .val cn] [(.ref r_217), (.ref a)])) rfl rfl (hb hby own_d_prog_17_1_59)
  have N222 := Fr.snoc X222 N214 ga
  have F223 : Fld Z h222 a own_c_235 "propertyValuesView" "Ljava/util/List;" (.ref r_217) := Fld.same W222 F221
  refine own_st (fun u_ k_ => st222 u_ k_) ?_
  show own_Go p e below _ (T222.setTop (mkF m 62 #[.val (.ref a), .val cn] []))
  refine own_st (fun u_ k_ => XS.aloadN X222.here hx rfl (hb hby own_d_prog_17_1_62) rfl rfl k_) ?_
  obtain ⟨T224, h224, X224, e224, E224, A224, D224, U224, st224⟩ := newO X222 hx hZ hown (own_w hw 118 rfl) (own_w hw 119 rfl) (own_w hw 120 rfl) e222 (g := (mkF m 63 #[.val (.ref a), .val cn] [(.ref a)])) rfl (hb hby own_d_prog_17_1_63) (by decide) (by decide)
  obtain ⟨b224, g224⟩ : ∃ z, z = h222.size := ⟨_, rfl⟩
  rw [← g224] at A224 D224 U224 st224
  have F224_lock : Fld Z h224 b224 own_c_157 "lock" "Ljava/lang/Object;" .null := D224 (Or.inr (own_w hw 129 rfl)) (ty := (.object "java/lang/Object")) own_lm_168
  have F224_array : Fld Z h224 b224 own_c_157 "array" "[Ljava/lang/Object;" .null := D224 (Or.inl (own_w hw 137 rfl)) (ty := (.array (.object "java/lang/Object"))) own_lm_75
  refine own_st (fun u_ k_ => st224 u_ k_) ?_
  show own_Go p e below _ (T224.setTop (mkF m 66 #[.val (.ref a), .val cn] [(.ref b224), (.ref a)]))
  refine own_st (fun u_ k_ => XS.dup X224.here hx rfl (hb hby own_d_prog_17_1_66) rfl rfl k_) ?_
  have O226 : Old Z n0 T214.heap := O216.keep K214 all0
  have O227 : Old Z n0 h222 := O226.wr W222 ga
  have g225 : n0 ≤ b224 := Nat.le_trans (own_nl O227) (Nat.le_of_eq g224.symm)
  have O229 : Old Z n0 h224 := O227.ext E224
  obtain ⟨T228, v228, L228, X228, hQ228, st228⟩ := own_callN X224 hx hZ (y := own_y_179) rfl hown (own_w hw 121 rfl) (own_w hw 122 rfl) (own_w hw 120 rfl) (own_w hw 123 rfl) own_lm_176 (rmCW l Z a0 hw [] w0 w1 w2 w3 wl wle wd mAL mUL mUR mOA wcs kle kd hS b224 h224 n0 O229 A224 g225 F224_array F224_lock) e224 own_pd_65 (a := b224) (argsL := []) (rest := [(.ref b224), (.ref a)]) rfl rfl (g := (mkF m 67 #[.val (.ref a), .val cn] [(.ref b224), (.ref b224), (.ref a)])) rfl (by rw [hml]; rfl) rfl (hb hby own_d_prog_17_1_67) (W := 2) rfl (by decide) (by decide) (by decide) (by decide)
  obtain ⟨ar_230, kr_231, rfl, M228, K228, z232, F233, F234, F235, F236⟩ := hQ228
  have N228 := Fr.app N222 M228
  refine own_st (fun u_ k_ => st228 u_ k_) ?_
  show own_Go p e below _ (T228.setTop (mkF m 70 #[.val (.ref a), .val cn] [(.ref b224), (.ref a)]))
  have F237 := ((Exa.ext E224 (Exa.wr W222 F220)).keep K228)
  have ne238 : a ≠ b224 := (Nat.ne_of_lt (Nat.lt_of_lt_of_le F223.lt (Nat.le_of_eq g224.symm)))
  have F239 := ((Fld.ext E224 (Fld.other W222 ((Fld.other W210 ((Fld.ext E197 (Fld.other W195 ((Fld.other W183 ((Fld.ext E171 (Fld.other W169 (Fld.other W163 NB7 (Or.inr (own_sn_304 hw))) (Or.inr (own_sn_306 hw)))).keep K174 (ninS ne181 nin0)) (Or.inr (own_sn_308 hw))).keep K187 nin0) (Or.inr (own_sn_310 hw)))).keep K201 (ninS ne208 nin0)) (Or.inr (own_sn_312 hw))).keep K214 nin0) (Or.inr (own_sn_314 hw)))).keep K228 (ninS ne238 nin0))
  obtain ⟨T240, h240, X240, e240, W240, st240⟩ := putF X228 hx hZ hown (host := "") (Or.inl (own_w hw 138 rfl)) Via.refl rfl F239 F237 (Or.inr ⟨(own_w hw 139 rfl), rfl, hnm⟩) (own_w hw 27 rfl) (ty := (.object "java/util/List")) own_lm_104 rfl rfl (g := (mkF m 70 #[.val (.ref a), .val cn] [(.ref b224), (.ref a)])) rfl rfl (hb hby own_d_prog_17_1_70)
  have N240 := Fr.snoc X240 N228 ga
  have F241 : Fld Z h240 a own_c_235 "watchers" "Ljava/util/List;" (.ref b224) := Fld.same W240 F239
  refine own_st (fun u_ k_ => st240 u_ k_) ?_
  show own_Go p e below _ (T240.setTop (mkF m 73 #[.val (.ref a), .val cn] []))
  refine own_st (fun u_ k_ => XS.aloadN X240.here hx rfl (hb hby own_d_prog_17_1_73) rfl rfl k_) ?_
  refine own_st (fun u_ k_ => XS.aloadN X240.here hx rfl (hb hby own_d_prog_17_1_74) rfl hcn k_) ?_
  show own_Go p e below _ (T240.setTop (mkF m 75 #[.val (.ref a), .val cn] [cn, (.ref a)]))
  have F242 := (Exa.wr W240 F237)
  have F243 := (Fld.other W240 ((Fld.ext E224 (Fld.other W222 ((Fld.other W210 ((Fld.ext E197 (Fld.other W195 ((Fld.other W183 ((Fld.ext E171 (Fld.other W169 (Fld.other W163 NB8 (Or.inr (own_sn_320 hw))) (Or.inr (own_sn_322 hw)))).keep K174 (ninS ne181 nin0)) (Or.inr (own_sn_324 hw))).keep K187 nin0) (Or.inr (own_sn_326 hw)))).keep K201 (ninS ne208 nin0)) (Or.inr (own_sn_328 hw))).keep K214 nin0) (Or.inr (own_sn_330 hw)))).keep K228 (ninS ne238 nin0)) (Or.inr (own_sn_332 hw)))
  obtain ⟨T244, h244, X244, e244, W244, st244⟩ := putF X240 hx hZ hown (host := "") (Or.inl (own_w hw 140 rfl)) Via.refl e240 F243 F242 (Or.inl (own_w hw 141 rfl)) (own_w hw 27 rfl) (ty := (.object "java/lang/String")) own_lm_319 (own_narG hcn) (own_fitG hcn) (g := (mkF m 75 #[.val (.ref a), .val cn] [cn, (.ref a)])) rfl rfl (hb hby own_d_prog_17_1_75)
  have N244 := Fr.snoc X244 N240 ga
  have F245 : Fld Z h244 a own_c_235 "className" "Ljava/lang/String;" cn := Fld.same W244 F243
  refine own_st (fun u_ k_ => st244 u_ k_) ?_
  show own_Go p e below _ (T244.setTop (mkF m 78 #[.val (.ref a), .val cn] []))
  have ne246 : b171 ≠ b197 := (Nat.ne_of_lt (Nat.lt_of_lt_of_le (Nat.lt_of_lt_of_le F186.lt (Nat.le_trans K187.1 (Nat.le_of_eq W195.size.symm))) (Nat.le_of_eq g197.symm)))
  have K247 : Keep h0 h163 [a] := (Keep.refl h0 [a]).wr W163 (Or.inl (List.mem_of_getElem? (i := 0) rfl))
  have K248 : Keep h0 h169 [a] := K247.wr W169 (Or.inl (List.mem_of_getElem? (i := 0) rfl))
  have K249 : Keep h0 h171 [a] := K248.ext E171
  have z251 : h0.size ≤ b171 := Nat.le_trans (Nat.le_trans (Nat.le_of_eq W163.size.symm) (Nat.le_of_eq W169.size.symm)) (Nat.le_of_eq g171.symm)
  have K250 : Keep h0 T174.heap [a] := K249.trans K174 (allS (Or.inr z251) all0)
  have K252 : Keep h0 h183 [a] := K250.wr W183 (Or.inl (List.mem_of_getElem? (i := 0) rfl))
  have K253 : Keep h0 T187.heap [a] := K252.trans K187 all0
  have K254 : Keep h0 h195 [a] := K253.wr W195 (Or.inl (List.mem_of_getElem? (i := 0) rfl))
  have K255 : Keep h0 h197 [a] := K254.ext E197
  have z257 : h0.size ≤ b197 := Nat.le_trans (Nat.le_trans (Nat.le_trans (Nat.le_trans (Nat.le_trans (Nat.le_trans (Nat.le_trans (Nat.le_of_eq W163.size.symm) (Nat.le_of_eq W169.size.symm)) E171.1) K174.1) (Nat.le_of_eq W183.size.symm)) K187.1) (Nat.le_of_eq W195.size.symm)) (Nat.le_of_eq g197.symm)
  have K256 : Keep h0 T201.heap [a] := K255.trans K201 (allS (Or.inr z257) all0)
  have K258 : Keep h0 h210 [a] := K256.wr W210 (Or.inl (List.mem_of_getElem? (i := 0) rfl))
  have K259 : Keep h0 T214.heap [a] := K258.trans K214 all0
  have K260 : Keep h0 h222 [a] := K259.wr W222 (Or.inl (List.mem_of_getElem? (i := 0) rfl))
  have K261 : Keep h0 h224 [a] := K260.ext E224
  have z263 : h0.size ≤ b224 := Nat.le_trans (Nat.le_trans (Nat.le_trans (Nat.le_trans (Nat.le_trans (Nat.le_trans (Nat.le_trans (Nat.le_trans (Nat.le_trans (Nat.le_trans (Nat.le_trans (Nat.le_trans (Nat.le_of_eq W163.size.symm) (Nat.le_of_eq W169.size.symm)) E171.1) K174.1) (Nat.le_of_eq W183.size.symm)) K187.1) (Nat.le_of_eq W195.size.symm)) E197.1) K201.1) (Nat.le_of_eq W210.size.symm)) K214.1) (Nat.le_of_eq W222.size.symm)) (Nat.le_of_eq g224.symm)
  have K262 : Keep h0 T228.heap [a] := K261.trans K228 (allS (Or.inr z263) all0)
  have K264 : Keep h0 h240 [a] := K262.wr W240 (Or.inl (List.mem_of_getElem? (i := 0) rfl))
  have K265 : Keep h0 h244 [a] := K264.wr W244 (Or.inl (List.mem_of_getElem? (i := 0) rfl))
  have z266 : h0.size ≤ ar_230 := Nat.le_trans (Nat.le_trans (Nat.le_trans (Nat.le_trans (Nat.le_trans (Nat.le_trans (Nat.le_trans (Nat.le_trans (Nat.le_trans (Nat.le_trans (Nat.le_trans (Nat.le_trans (Nat.le_trans (Nat.le_of_eq W163.size.symm) (Nat.le_of_eq W169.size.symm)) E171.1) K174.1) (Nat.le_of_eq W183.size.symm)) K187.1) (Nat.le_of_eq W195.size.symm)) E197.1) K201.1) (Nat.le_of_eq W210.size.symm)) K214.1) (Nat.le_of_eq W222.size.symm)) E224.1) z232
  have F267 := (Exa.wr W244 F242)
  have F268 := (Fld.other W244 (Fld.other W240 ((Fld.ext E224 (Fld.other W222 ((Fld.other W210 ((Fld.ext E197 (Fld.other W195 ((Fld.other W183 ((Fld.ext E171 (Fld.other W169 F164 (Or.inr (own_sn_335 hw)))).keep K174 (ninS ne181 nin0)) (Or.inr (own_sn_337 hw))).keep K187 nin0) (Or.inr (own_sn_339 hw)))).keep K201 (ninS ne208 nin0)) (Or.inr (own_sn_341 hw))).keep K214 nin0) (Or.inr (own_sn_343 hw)))).keep K228 (ninS ne238 nin0)) (Or.inr (own_sn_345 hw))) (Or.inr (own_sn_347 hw)))
  have F269 := (Fld.other W244 (Fld.other W240 ((Fld.ext E224 (Fld.other W222 ((Fld.other W210 ((Fld.ext E197 (Fld.other W195 ((Fld.other W183 ((Fld.ext E171 F170).keep K174 (ninS ne181 nin0)) (Or.inr (own_sn_349 hw))).keep K187 nin0) (Or.inr (own_sn_351 hw)))).keep K201 (ninS ne208 nin0)) (Or.inr (own_sn_353 hw))).keep K214 nin0) (Or.inr (own_sn_355 hw)))).keep K228 (ninS ne238 nin0)) (Or.inr (own_sn_357 hw))) (Or.inr (own_sn_359 hw)))
  have F270 := (Fld.other W244 (Fld.other W240 ((Fld.ext E224 (Fld.other W222 ((Fld.other W210 ((Fld.ext E197 (Fld.other W195 (F184.keep K187 nin0) (Or.inr (own_sn_361 hw)))).keep K201 (ninS ne208 nin0)) (Or.inr (own_sn_363 hw))).keep K214 nin0) (Or.inr (own_sn_365 hw)))).keep K228 (ninS ne238 nin0)) (Or.inr (own_sn_367 hw))) (Or.inr (own_sn_369 hw)))
  have F271 := (Fld.other W244 (Fld.other W240 ((Fld.ext E224 (Fld.other W222 (F211.keep K214 nin0) (Or.inr (own_sn_371 hw)))).keep K228 (ninS ne238 nin0)) (Or.inr (own_sn_373 hw))) (Or.inr (own_sn_375 hw)))
  have F272 := (Fld.other W244 F241 (Or.inr (own_sn_377 hw)))
  have F273 := (Fld.other W244 (Fld.other W240 ((Fld.ext E224 (Fld.other W222 ((Fld.other W210 ((Fld.ext E197 (Fld.other W195 ((Fld.other W183 ((Fld.ext E171 (Fld.other W169 (Fld.other W163 NB9 (Or.inr (own_sn_380 hw))) (Or.inr (own_sn_382 hw)))).keep K174 (ninS ne181 nin0)) (Or.inr (own_sn_384 hw))).keep K187 nin0) (Or.inr (own_sn_386 hw)))).keep K201 (ninS ne208 nin0)) (Or.inr (own_sn_388 hw))).keep K214 nin0) (Or.inr (own_sn_390 hw)))).keep K228 (ninS ne238 nin0)) (Or.inr (own_sn_392 hw))) (Or.inr (own_sn_394 hw)))
  have F274 := (Fld.other W244 (Fld.other W240 ((Fld.ext E224 (Fld.other W222 ((Fld.other W210 ((Fld.ext E197 (Fld.other W195 ((Fld.other W183 ((Fld.ext E171 (Fld.other W169 (Fld.other W163 NB10 (Or.inr (own_sn_397 hw))) (Or.inr (own_sn_399 hw)))).keep K174 (ninS ne181 nin0)) (Or.inr (own_sn_401 hw))).keep K187 nin0) (Or.inr (own_sn_403 hw)))).keep K201 (ninS ne208 nin0)) (Or.inr (own_sn_405 hw))).keep K214 nin0) (Or.inr (own_sn_407 hw)))).keep K228 (ninS ne238 nin0)) (Or.inr (own_sn_409 hw))) (Or.inr (own_sn_411 hw)))
  have F275 := (Fld.other W244 (Fld.other W240 ((Fld.ext E224 (Fld.other W222 ((Fld.other W210 ((Fld.ext E197 (Fld.other W195 ((Fld.other W183 ((Fld.ext E171 (Fld.other W169 (Fld.other W163 NB11 (Or.inr (own_sn_414 hw))) (Or.inr (own_sn_416 hw)))).keep K174 (ninS ne181 nin0)) (Or.inr (own_sn_418 hw))).keep K187 nin0) (Or.inr (own_sn_420 hw)))).keep K201 (ninS ne208 nin0)) (Or.inr (own_sn_422 hw))).keep K214 nin0) (Or.inr (own_sn_424 hw)))).keep K228 (ninS ne238 nin0)) (Or.inr (own_sn_426 hw))) (Or.inr (own_sn_428 hw)))
  have F276 := (Fld.other W244 (Fld.other W240 ((Fld.ext E224 (Fld.other W222 ((Fld.other W210 ((Fld.ext E197 (Fld.other W195 ((Fld.other W183 ((Fld.ext E171 (Fld.other W169 (Fld.other W163 NB12 (Or.inr (own_sn_430 hw))) (Or.inr (own_sn_432 hw)))).keep K174 (ninS ne181 nin0)) (Or.inr (own_sn_434 hw))).keep K187 nin0) (Or.inr (own_sn_436 hw)))).keep K201 (ninS ne208 nin0)) (Or.inr (own_sn_438 hw))).keep K214 nin0) (Or.inr (own_sn_440 hw)))).keep K228 (ninS ne238 nin0)) (Or.inr (own_sn_442 hw))) (Or.inr (own_sn_444 hw)))
  have F277 := (Fld.other W244 (Fld.other W240 ((Fld.ext E224 (Fld.other W222 ((Fld.other W210 ((Fld.ext E197 (Fld.other W195 ((Fld.other W183 ((Fld.ext E171 (Fld.other W169 (Fld.other W163 NB13 (Or.inr (own_sn_446 hw))) (Or.inr (own_sn_448 hw)))).keep K174 (ninS ne181 nin0)) (Or.inr (own_sn_450 hw))).keep K187 nin0) (Or.inr (own_sn_452 hw)))).keep K201 (ninS ne208 nin0)) (Or.inr (own_sn_454 hw))).keep K214 nin0) (Or.inr (own_sn_456 hw)))).keep K228 (ninS ne238 nin0)) (Or.inr (own_sn_458 hw))) (Or.inr (own_sn_460 hw)))
  have F278 := (Fld.other W244 (Fld.other W240 ((Fld.ext E224 (Fld.other W222 ((Fld.other W210 ((Fld.ext E197 (Fld.other W195 ((Fld.other W183 ((Fld.ext E171 (Fld.other W169 (Fld.other W163 NB14 (Or.inr (own_sn_463 hw))) (Or.inr (own_sn_465 hw)))).keep K174 (ninS ne181 nin0)) (Or.inr (own_sn_467 hw))).keep K187 nin0) (Or.inr (own_sn_469 hw)))).keep K201 (ninS ne208 nin0)) (Or.inr (own_sn_471 hw))).keep K214 nin0) (Or.inr (own_sn_473 hw)))).keep K228 (ninS ne238 nin0)) (Or.inr (own_sn_475 hw))) (Or.inr (own_sn_477 hw)))
  have F279 := (Fld.other W244 (Fld.other W240 ((Fld.ext E224 (Fld.other W222 ((Fld.other W210 ((Fld.ext E197 (Fld.other W195 ((Fld.other W183 ((Fld.ext E171 (Fld.other W169 (Fld.other W163 NB15 (Or.inr (own_sn_479 hw))) (Or.inr (own_sn_481 hw)))).keep K174 (ninS ne181 nin0)) (Or.inr (own_sn_483 hw))).keep K187 nin0) (Or.inr (own_sn_485 hw)))).keep K201 (ninS ne208 nin0)) (Or.inr (own_sn_487 hw))).keep K214 nin0) (Or.inr (own_sn_489 hw)))).keep K228 (ninS ne238 nin0)) (Or.inr (own_sn_491 hw))) (Or.inr (own_sn_493 hw)))
  have F280 := (Fld.other W244 (Fld.other W240 ((Fld.ext E224 (Fld.other W222 ((Fld.other W210 ((Fld.ext E197 (Fld.other W195 ((Fld.other W183 ((Fld.ext E171 (Fld.other W169 (Fld.other W163 NB16 (Or.inr (own_sn_495 hw))) (Or.inr (own_sn_497 hw)))).keep K174 (ninS ne181 nin0)) (Or.inr (own_sn_499 hw))).keep K187 nin0) (Or.inr (own_sn_501 hw)))).keep K201 (ninS ne208 nin0)) (Or.inr (own_sn_503 hw))).keep K214 nin0) (Or.inr (own_sn_505 hw)))).keep K228 (ninS ne238 nin0)) (Or.inr (own_sn_507 hw))) (Or.inr (own_sn_509 hw)))
  have F281 := (Fld.other W244 (Fld.other W240 ((Fld.ext E224 (Fld.other W222 ((Fld.other W210 ((Fld.ext E197 (Fld.other W195 ((Fld.other W183 ((Fld.ext E171 (Fld.other W169 (Fld.other W163 NB17 (Or.inr (own_sn_511 hw))) (Or.inr (own_sn_513 hw)))).keep K174 (ninS ne181 nin0)) (Or.inr (own_sn_515 hw))).keep K187 nin0) (Or.inr (own_sn_517 hw)))).keep K201 (ninS ne208 nin0)) (Or.inr (own_sn_519 hw))).keep K214 nin0) (Or.inr (own_sn_521 hw)))).keep K228 (ninS ne238 nin0)) (Or.inr (own_sn_523 hw))) (Or.inr (own_sn_525 hw)))
  have F282 := (Fld.other W244 (Fld.other W240 ((Fld.ext E224 (Fld.other W222 ((Fld.other W210 ((Fld.ext E197 (Fld.other W195 ((Fld.other W183 ((Fld.ext E171 (Fld.other W169 (Fld.other W163 NB18 (Or.inr (own_sn_527 hw))) (Or.inr (own_sn_529 hw)))).keep K174 (ninS ne181 nin0)) (Or.inr (own_sn_531 hw))).keep K187 nin0) (Or.inr (own_sn_533 hw)))).keep K201 (ninS ne208 nin0)) (Or.inr (own_sn_535 hw))).keep K214 nin0) (Or.inr (own_sn_537 hw)))).keep K228 (ninS ne238 nin0)) (Or.inr (own_sn_539 hw))) (Or.inr (own_sn_541 hw)))
  have F283 := (Fld.other W244 (Fld.other W240 ((Fld.ext E224 (Fld.other W222 ((Fld.other W210 ((Fld.ext E197 (Fld.other W195 ((Fld.other W183 ((Fld.ext E171 (Fld.other W169 (Fld.other W163 NB19 (Or.inr (own_sn_543 hw))) (Or.inr (own_sn_545 hw)))).keep K174 (ninS ne181 nin0)) (Or.inr (own_sn_547 hw))).keep K187 nin0) (Or.inr (own_sn_549 hw)))).keep K201 (ninS ne208 nin0)) (Or.inr (own_sn_551 hw))).keep K214 nin0) (Or.inr (own_sn_553 hw)))).keep K228 (ninS ne238 nin0)) (Or.inr (own_sn_555 hw))) (Or.inr (own_sn_557 hw)))
  have F284 := (Exa.wr W244 (Exa.wr W240 ((Exa.ext E224 (Exa.wr W222 ((Exa.wr W210 ((Exa.ext E197 (Exa.wr W195 (F186.keep K187))).keep K201)).keep K214))).keep K228)))
  have ne285 : b171 ≠ b224 := (Nat.ne_of_lt (Nat.lt_of_lt_of_le (Nat.lt_of_lt_of_le F186.lt (Nat.le_trans (Nat.le_trans (Nat.le_trans (Nat.le_trans (Nat.le_trans (Nat.le_trans K187.1 (Nat.le_of_eq W195.size.symm)) E197.1) K201.1) (Nat.le_of_eq W210.size.symm)) K214.1) (Nat.le_of_eq W222.size.symm))) (Nat.le_of_eq g224.symm)))
  have F286 := (Fld.other W244 (Fld.other W240 ((Fld.ext E224 (Fld.other W222 ((Fld.other W210 ((Fld.ext E197 (Fld.other W195 ((Fld.other W183 F177 (Or.inl (Ne.symm ne181))).keep K187 nin0) (Or.inl (Ne.symm ne181)))).keep K201 (ninS ne246 nin0)) (Or.inl (Ne.symm ne181))).keep K214 nin0) (Or.inl (Ne.symm ne181)))).keep K228 (ninS ne285 nin0)) (Or.inl (Ne.symm ne181))) (Or.inl (Ne.symm ne181)))
  have F287 := (Fld.other W244 (Fld.other W240 ((Fld.ext E224 (Fld.other W222 ((Fld.other W210 ((Fld.ext E197 (Fld.other W195 ((Fld.other W183 F178 (Or.inl (Ne.symm ne181))).keep K187 nin0) (Or.inl (Ne.symm ne181)))).keep K201 (ninS ne246 nin0)) (Or.inl (Ne.symm ne181))).keep K214 nin0) (Or.inl (Ne.symm ne181)))).keep K228 (ninS ne285 nin0)) (Or.inl (Ne.symm ne181))) (Or.inl (Ne.symm ne181)))
  have F288 := (Fld.other W244 (Fld.other W240 ((Fld.ext E224 (Fld.other W222 ((Fld.other W210 ((Fld.ext E197 (Fld.other W195 ((Fld.other W183 F179 (Or.inl (Ne.symm ne181))).keep K187 nin0) (Or.inl (Ne.symm ne181)))).keep K201 (ninS ne246 nin0)) (Or.inl (Ne.symm ne181))).keep K214 nin0) (Or.inl (Ne.symm ne181)))).keep K228 (ninS ne285 nin0)) (Or.inl (Ne.symm ne181))) (Or.inl (Ne.symm ne181)))
  have F289 := (Exa.wr W244 (Exa.wr W240 ((Exa.ext E224 (Exa.wr W222 (F213.keep K214))).keep K228)))
  have ne290 : b197 ≠ b224 := (Nat.ne_of_lt (Nat.lt_of_lt_of_le (Nat.lt_of_lt_of_le F213.lt (Nat.le_trans K214.1 (Nat.le_of_eq W222.size.symm))) (Nat.le_of_eq g224.symm)))
  have F291 := (Fld.other W244 (Fld.other W240 ((Fld.ext E224 (Fld.other W222 ((Fld.other W210 F204 (Or.inl (Ne.symm ne208))).keep K214 nin0) (Or.inl (Ne.symm ne208)))).keep K228 (ninS ne290 nin0)) (Or.inl (Ne.symm ne208))) (Or.inl (Ne.symm ne208)))
  have F292 := (Fld.other W244 (Fld.other W240 ((Fld.ext E224 (Fld.other W222 ((Fld.other W210 F205 (Or.inl (Ne.symm ne208))).keep K214 nin0) (Or.inl (Ne.symm ne208)))).keep K228 (ninS ne290 nin0)) (Or.inl (Ne.symm ne208))) (Or.inl (Ne.symm ne208)))
  have F293 := (Fld.other W244 (Fld.other W240 ((Fld.ext E224 (Fld.other W222 ((Fld.other W210 F206 (Or.inl (Ne.symm ne208))).keep K214 nin0) (Or.inl (Ne.symm ne208)))).keep K228 (ninS ne290 nin0)) (Or.inl (Ne.symm ne208))) (Or.inl (Ne.symm ne208)))
  have F294 := (Exa.wr W244 (Exa.wr W240 F233))
  have F295 := (Fld.other W244 (Fld.other W240 F234 (Or.inl (Ne.symm ne238))) (Or.inl (Ne.symm ne238)))
  have ne296 : ar_230 ≠ a := (Ne.symm (Nat.ne_of_lt (Nat.lt_of_lt_of_le (Nat.lt_of_lt_of_le F223.lt E224.1) z232)))
  have F297 := ((F235.other W240 ne296).other W244 ne296)
  have F298 := (Exa.wr W244 (Exa.wr W240 F236))
  exact own_retV X244 hx hlk hret (hb hby own_d_prog_17_1_78) (by decide) (by decide) (show QrmBI Z w0 w1 w2 w3 wl wle wd mAL mUL mUR mOA wcs kle kd a cn h0 n0 none T244.heap _ from (by rw [e244]; exact ⟨b171, b197, b224, ar_230, kr_231, rfl, N244, K265, z251, z257, z263, z266, F267, F268, F269, F270, F271, F272, F245, F273, F274, F275, F276, F277, F278, F279, F280, F281, F282, F283, F284, F286, F287, F288, F289, F291, F292, F293, F294, F295, F297, F298, ne246⟩))
theorem own_d_prog_17_26_0 : decode prog_17_method_26_code 0 = .ok (.aload_n 0, 1) := by decide +kernel
theorem own_d_prog_17_26_1 : decode prog_17_method_26_code 1 = .ok (.getfield 134, 3) := by decide +kernel
theorem own_d_prog_17_26_4 : decode prog_17_method_26_code 4 = .ok (.ifnonnull 9, 3) := by decide +kernel
theorem own_d_prog_17_26_7 : decode prog_17_method_26_code 7 = .ok (.getstatic 138, 3) := by decide +kernel
theorem own_d_prog_17_26_10 : decode prog_17_method_26_code 10 = .ok (.goto 7, 3) := by decide +kernel
theorem own_d_prog_17_26_17 : decode prog_17_method_26_code 17 = .ok (.areturn, 1) := by decide +kernel
theorem own_d_prog_17_26_13 : decode prog_17_method_26_code 13 = .ok (.aload_n 0, 1) := by decide +kernel
theorem own_d_prog_17_26_14 : decode prog_17_method_26_code 14 = .ok (.getfield 134, 3) := by decide +kernel
abbrev own_y_569 : MethodName := ⟨"com/example/temanggung/temanggung/beans/factory/BeanDefinition", "getAutowire", "()Lcom/example/temanggung/temanggung/beans/factory/Autowire;"⟩
theorem own_ef_rmGW (m : MethodId) (a : Addr)  : entryFrame m #[(.ref a)] 1 = mkF m 0 #[.val (.ref a)] [] := by first | (simp [entryFrame, mkF, argsToLocals, Value.category, maxLocals]; done) | rfl
def QrmGW (Z : State) (w0 w1 w2 w3 wl wle wd mAL mUL mUR mOA : Addr) (wcs : Int32) (kle kd : ClassId) (a : Addr) (au : Value) (h0 : Heap) (n0 : Nat) (v : Option Value) (h : Heap) (L : List Loc) : Prop := v = some (own_or au (.ref w0)) ∧ Fr n0 L ∧ h = h0
set_option maxRecDepth 65536 in
set_option maxHeartbeats 40000000 in
theorem rmGW (l : Launch) (Z : State) (a0 : Array Value) (hw : own_H a0 Z) (ws : List Jvm.Cond) (w0 w1 w2 w3 wl wle wd mAL mUL mUR mOA : Addr) (wcs : Int32) (kle kd : ClassId) (hS : own_S Z w0 w1 w2 w3 wl wle wd mAL mUL mUR mOA wcs kle kd) (a : Addr) (au : Value) (h0 : Heap) (n0 : Nat) (O0 : Old Z n0 h0) (F1 : Fld Z h0 a own_c_235 "autowire" own_c_559 au) (hau : au.isRef = true) :
    own_Met l own_y_569 prog_17_method_26_code 1 (some (.object "com/example/temanggung/temanggung/beans/factory/Autowire")) ws ({ frames := 0, cells := 0, slots := 0, locals := 0 } : Room) Z h0 #[(.ref a)] (QrmGW Z w0 w1 w2 w3 wl wle wd mAL mUL mUR mOA wcs kle kd a au h0 n0) := by
  refine own_body (plainFor_of_name own_pn_234) ?_
  intro p e s m below meth c s₁ hx hby hml hown hnm hret hlk hZ e0 X0
  have N0 := Fr.nil n0
  refine own_st (fun u_ k_ => castTop (own_ef_rmGW m a) k_) ?_
  show own_Go p e below _ (s₁.setTop (mkF m 0 #[.val (.ref a)] []))
  refine own_st (fun u_ k_ => XS.aloadN X0.here hx rfl (hb hby own_d_prog_17_26_0) rfl rfl k_) ?_
  obtain ⟨T299, X299, e299, st299⟩ := getF X0 hx hZ hown (host := "") (Or.inl (own_w hw 147 rfl)) Via.refl e0 F1 (g := (mkF m 1 #[.val (.ref a)] [(.ref a)])) rfl rfl (hb hby own_d_prog_17_26_1)
  refine own_st (fun u_ k_ => st299 u_ k_) ?_
  show own_Go p e below _ (T299.setTop (mkF m 4 #[.val (.ref a)] [au]))
  rcases ref_cases hau with rfl | ⟨r300, rfl⟩
  · show own_Go p e below _ (T299.setTop (mkF m 4 #[.val (.ref a)] [.null]))
    refine own_st (fun u_ k_ => XS.ifnonnullNo X299.here hx rfl (hb hby own_d_prog_17_26_4) rfl k_) ?_
    have F301 := Sta.ext O0.2 hS.1
    obtain ⟨T302, X302, e302, st302⟩ := getS2 X299 hx hZ hown (host := "") (Or.inl (own_w hw 149 rfl)) Via.refl e299 F301 (g := (mkF m 7 #[.val (.ref a)] [])) rfl (hb hby own_d_prog_17_26_7)
    refine own_st (fun u_ k_ => st302 u_ k_) ?_
    show own_Go p e below _ (T302.setTop (mkF m 10 #[.val (.ref a)] [(.ref w0)]))
    refine own_st (fun u_ k_ => XS.goto X302.here hx rfl (pc0 := 10) (pc' := 17) rfl (hb hby own_d_prog_17_26_10) (by decide) (by decide) k_) ?_
    exact own_retX X302 hx hlk hret rfl (Or.inr (Or.inr (Or.inr (Or.inr ⟨rfl, rfl, rfl⟩)))) (hb hby own_d_prog_17_26_17) (by decide) (by decide) (show QrmGW Z w0 w1 w2 w3 wl wle wd mAL mUL mUR mOA wcs kle kd a (.null : Value) h0 n0 (some (.ref w0)) T302.heap _ from (by rw [e302]; exact ⟨rfl, N0, rfl⟩))
  · show own_Go p e below _ (T299.setTop (mkF m 4 #[.val (.ref a)] [(.ref r300)]))
    refine own_st (fun u_ k_ => XS.ifnonnullYes X299.here hx rfl (pc0 := 4) (pc' := 13) rfl (hb hby own_d_prog_17_26_4) rfl (by decide) (by decide) k_) ?_
    refine own_st (fun u_ k_ => XS.aloadN X299.here hx rfl (hb hby own_d_prog_17_26_13) rfl rfl k_) ?_
    show own_Go p e below _ (T299.setTop (mkF m 14 #[.val (.ref a)] [(.ref a)]))
    obtain ⟨T303, X303, e303, st303⟩ := getF X299 hx hZ hown (host := "") (Or.inl (own_w hw 147 rfl)) Via.refl e299 F1 (g := (mkF m 14 #[.val (.ref a)] [(.ref a)])) rfl rfl (hb hby own_d_prog_17_26_14)
    refine own_st (fun u_ k_ => st303 u_ k_) ?_
    show own_Go p e below _ (T303.setTop (mkF m 17 #[.val (.ref a)] [(.ref r300)]))
    exact own_retX X303 hx hlk hret rfl (Or.inr (Or.inr (Or.inr (Or.inr ⟨rfl, rfl, rfl⟩)))) (hb hby own_d_prog_17_26_17) (by decide) (by decide) (show QrmGW Z w0 w1 w2 w3 wl wle wd mAL mUL mUR mOA wcs kle kd a ((.ref r300) : Value) h0 n0 (some (.ref r300)) T303.heap _ from (by rw [e303]; exact ⟨rfl, N0, rfl⟩))
theorem own_d_method_3_0 : decode method_3_code 0 = .ok (.aload_n 0, 1) := by decide +kernel
theorem own_d_method_3_1 : decode method_3_code 1 = .ok (.ifnonnull 9, 3) := by decide +kernel
theorem own_d_method_3_4 : decode method_3_code 4 = .ok (.getstatic 8, 3) := by decide +kernel
theorem own_d_method_3_7 : decode method_3_code 7 = .ok (.goto 4, 3) := by decide +kernel
theorem own_d_method_3_11 : decode method_3_code 11 = .ok (.areturn, 1) := by decide +kernel
theorem own_d_method_3_10 : decode method_3_code 10 = .ok (.aload_n 0, 1) := by decide +kernel
abbrev own_y_576 : MethodName := ⟨"com/example/temanggung/temanggung/beans/factory/BeanDefinitionGetAutowirePinLaw", "orNo", "(Lcom/example/temanggung/temanggung/beans/factory/Autowire;)Lcom/example/temanggung/temanggung/beans/factory/Autowire;"⟩
theorem own_pn_577 : plainName "com/example/temanggung/temanggung/beans/factory/BeanDefinitionGetAutowirePinLaw" = true := by first | (simp [plainName, overriddenIn]; done) | decide +kernel
theorem own_ef_rmON (m : MethodId) (au : Value) (hau : au.isRef = true) : entryFrame m #[au] 1 = mkF m 0 #[.val au] [] := by rcases ref_cases hau with rfl | ⟨_, rfl⟩ <;> first | (simp [entryFrame, mkF, argsToLocals, Value.category, maxLocals]; done) | rfl
def QrmON (Z : State) (w0 w1 w2 w3 wl wle wd mAL mUL mUR mOA : Addr) (wcs : Int32) (kle kd : ClassId) (au : Value) (h0 : Heap) (n0 : Nat) (v : Option Value) (h : Heap) (L : List Loc) : Prop := v = some (own_or au (.ref w0)) ∧ Fr n0 L ∧ h = h0
set_option maxRecDepth 65536 in
set_option maxHeartbeats 40000000 in
theorem rmON (l : Launch) (Z : State) (a0 : Array Value) (hw : own_H a0 Z) (ws : List Jvm.Cond) (w0 w1 w2 w3 wl wle wd mAL mUL mUR mOA : Addr) (wcs : Int32) (kle kd : ClassId) (hS : own_S Z w0 w1 w2 w3 wl wle wd mAL mUL mUR mOA wcs kle kd) (au : Value) (h0 : Heap) (n0 : Nat) (O0 : Old Z n0 h0) (hau : au.isRef = true) :
    own_Met l own_y_576 method_3_code 1 (some (.object "com/example/temanggung/temanggung/beans/factory/Autowire")) ws ({ frames := 0, cells := 0, slots := 0, locals := 0 } : Room) Z h0 #[au] (QrmON Z w0 w1 w2 w3 wl wle wd mAL mUL mUR mOA wcs kle kd au h0 n0) := by
  refine own_body (plainFor_of_name own_pn_577) ?_
  intro p e s m below meth c s₁ hx hby hml hown hnm hret hlk hZ e0 X0
  have N0 := Fr.nil n0
  refine own_st (fun u_ k_ => castTop (own_ef_rmON m au hau) k_) ?_
  show own_Go p e below _ (s₁.setTop (mkF m 0 #[.val au] []))
  refine own_st (fun u_ k_ => XS.aloadN X0.here hx rfl (hb hby own_d_method_3_0) rfl hau k_) ?_
  rcases ref_cases hau with rfl | ⟨r304, rfl⟩
  · show own_Go p e below _ (s₁.setTop (mkF m 1 #[.val .null] [.null]))
    refine own_st (fun u_ k_ => XS.ifnonnullNo X0.here hx rfl (hb hby own_d_method_3_1) rfl k_) ?_
    show own_Go p e below _ (s₁.setTop (mkF m 4 #[.val .null] []))
    have F305 := Sta.ext O0.2 hS.1
    obtain ⟨T306, X306, e306, st306⟩ := getS2 X0 hx hZ hown (host := "") (Or.inl (own_w hw 152 rfl)) Via.refl e0 F305 (g := (mkF m 4 #[.val .null] [])) rfl (hb hby own_d_method_3_4)
    refine own_st (fun u_ k_ => st306 u_ k_) ?_
    show own_Go p e below _ (T306.setTop (mkF m 7 #[.val .null] [(.ref w0)]))
    refine own_st (fun u_ k_ => XS.goto X306.here hx rfl (pc0 := 7) (pc' := 11) rfl (hb hby own_d_method_3_7) (by decide) (by decide) k_) ?_
    exact own_retX X306 hx hlk hret rfl (Or.inr (Or.inr (Or.inr (Or.inr ⟨rfl, rfl, rfl⟩)))) (hb hby own_d_method_3_11) (by decide) (by decide) (show QrmON Z w0 w1 w2 w3 wl wle wd mAL mUL mUR mOA wcs kle kd (.null : Value) h0 n0 (some (.ref w0)) T306.heap _ from (by rw [e306]; exact ⟨rfl, N0, rfl⟩))
  · show own_Go p e below _ (s₁.setTop (mkF m 1 #[.val (.ref r304)] [(.ref r304)]))
    refine own_st (fun u_ k_ => XS.ifnonnullYes X0.here hx rfl (pc0 := 1) (pc' := 10) rfl (hb hby own_d_method_3_1) rfl (by decide) (by decide) k_) ?_
    show own_Go p e below _ (s₁.setTop (mkF m 10 #[.val (.ref r304)] []))
    refine own_st (fun u_ k_ => XS.aloadN X0.here hx rfl (hb hby own_d_method_3_10) rfl rfl k_) ?_
    exact own_retX X0 hx hlk hret rfl (Or.inr (Or.inr (Or.inr (Or.inr ⟨rfl, rfl, rfl⟩)))) (hb hby own_d_method_3_11) (by decide) (by decide) (show QrmON Z w0 w1 w2 w3 wl wle wd mAL mUL mUR mOA wcs kle kd ((.ref r304) : Value) h0 n0 (some (.ref r304)) s₁.heap _ from (by rw [e0]; exact ⟨rfl, N0, rfl⟩))
theorem own_d_method_2_0 : decode method_2_code 0 = .ok (.iload_n 0, 1) := by decide +kernel
theorem own_d_method_2_1 : decode method_2_code 1 = .ok (.ldc 7, 2) := by decide +kernel
theorem own_d_method_2_3 : decode method_2_code 3 = .ok (.iand, 1) := by decide +kernel
theorem own_d_method_2_4 : decode method_2_code 4 = .ok (.iconst 5, 1) := by decide +kernel
theorem own_d_method_2_5 : decode method_2_code 5 = .ok (.irem, 1) := by decide +kernel
theorem own_d_method_2_6 : decode method_2_code 6 = .ok (.istore_n 1, 1) := by decide +kernel
theorem own_d_method_2_7 : decode method_2_code 7 = .ok (.iload_n 1, 1) := by decide +kernel
theorem own_d_method_2_8 : decode method_2_code 8 = .ok (.ifCond .ne 5, 3) := by decide +kernel
theorem own_d_method_2_11 : decode method_2_code 11 = .ok (.aconst_null, 1) := by decide +kernel
theorem own_d_method_2_12 : decode method_2_code 12 = .ok (.areturn, 1) := by decide +kernel
theorem own_d_method_2_13 : decode method_2_code 13 = .ok (.iload_n 1, 1) := by decide +kernel
theorem own_d_method_2_14 : decode method_2_code 14 = .ok (.iconst 1, 1) := by decide +kernel
theorem own_d_method_2_15 : decode method_2_code 15 = .ok (.if_icmp .ne 7, 3) := by decide +kernel
theorem own_d_method_2_18 : decode method_2_code 18 = .ok (.getstatic 8, 3) := by decide +kernel
theorem own_d_method_2_21 : decode method_2_code 21 = .ok (.areturn, 1) := by decide +kernel
theorem own_d_method_2_22 : decode method_2_code 22 = .ok (.iload_n 1, 1) := by decide +kernel
theorem own_d_method_2_23 : decode method_2_code 23 = .ok (.iconst 2, 1) := by decide +kernel
theorem own_d_method_2_24 : decode method_2_code 24 = .ok (.if_icmp .ne 7, 3) := by decide +kernel
theorem own_d_method_2_27 : decode method_2_code 27 = .ok (.getstatic 14, 3) := by decide +kernel
theorem own_d_method_2_30 : decode method_2_code 30 = .ok (.areturn, 1) := by decide +kernel
theorem own_d_method_2_31 : decode method_2_code 31 = .ok (.iload_n 1, 1) := by decide +kernel
theorem own_d_method_2_32 : decode method_2_code 32 = .ok (.iconst 3, 1) := by decide +kernel
theorem own_d_method_2_33 : decode method_2_code 33 = .ok (.if_icmp .ne 7, 3) := by decide +kernel
theorem own_d_method_2_36 : decode method_2_code 36 = .ok (.getstatic 17, 3) := by decide +kernel
theorem own_d_method_2_39 : decode method_2_code 39 = .ok (.areturn, 1) := by decide +kernel
theorem own_d_method_2_40 : decode method_2_code 40 = .ok (.getstatic 20, 3) := by decide +kernel
theorem own_d_method_2_43 : decode method_2_code 43 = .ok (.areturn, 1) := by decide +kernel
abbrev own_y_605 : MethodName := ⟨"com/example/temanggung/temanggung/beans/factory/BeanDefinitionGetAutowirePinLaw", "mode", "(I)Lcom/example/temanggung/temanggung/beans/factory/Autowire;"⟩
theorem own_ef_rmMO (m : MethodId) (k : Int32)  : entryFrame m #[(.int k)] 2 = mkF m 0 #[.val (.int k), .unset] [] := by first | (simp [entryFrame, mkF, argsToLocals, Value.category, maxLocals]; done) | rfl
def QrmMO (Z : State) (w0 w1 w2 w3 wl wle wd mAL mUL mUR mOA : Addr) (wcs : Int32) (kle kd : ClassId) (k : Int32) (h0 : Heap) (n0 : Nat) (v : Option Value) (h : Heap) (L : List Loc) : Prop := ∃ rv : Value, v = some rv ∧ Fr n0 L ∧ h = h0 ∧ rv.isRef = true ∧ own_AW Z rv
set_option maxRecDepth 65536 in
set_option maxHeartbeats 40000000 in
theorem rmMO (l : Launch) (Z : State) (a0 : Array Value) (hw : own_H a0 Z) (ws : List Jvm.Cond) (w0 w1 w2 w3 wl wle wd mAL mUL mUR mOA : Addr) (wcs : Int32) (kle kd : ClassId) (hS : own_S Z w0 w1 w2 w3 wl wle wd mAL mUL mUR mOA wcs kle kd) (k : Int32) (h0 : Heap) (n0 : Nat) (O0 : Old Z n0 h0)  :
    own_Met l own_y_605 method_2_code 2 (some (.object "com/example/temanggung/temanggung/beans/factory/Autowire")) ws ({ frames := 0, cells := 0, slots := 0, locals := 0 } : Room) Z h0 #[(.int k)] (QrmMO Z w0 w1 w2 w3 wl wle wd mAL mUL mUR mOA wcs kle kd k h0 n0) := by
  refine own_body (plainFor_of_name own_pn_577) ?_
  intro p e s m below meth c s₁ hx hby hml hown hnm hret hlk hZ e0 X0
  have N0 := Fr.nil n0
  refine own_st (fun u_ k_ => castTop (own_ef_rmMO m k) k_) ?_
  show own_Go p e below _ (s₁.setTop (mkF m 0 #[.val (.int k), .unset] []))
  refine own_st (fun u_ k_ => XS.iloadN X0.here hx rfl (hb hby own_d_method_2_0) rfl k_) ?_
  refine own_st (X0.ldcInt hx hown (mvT hZ (own_w hw 157 rfl)) (g := (mkF m 1 #[.val (.int k), .unset] [(.int k)])) rfl (hb hby own_d_method_2_1)) ?_
  show own_Go p e below _ (s₁.setTop (mkF m 3 #[.val (.int k), .unset] [(.int (2147483647 : Int32)), (.int k)]))
  refine own_st (fun u_ k_ => XS.iand X0.here hx rfl (hb hby own_d_method_2_3) rfl k_) ?_
  show own_Go p e below _ (s₁.setTop (mkF m 4 #[.val (.int k), .unset] [(.int (k &&& (2147483647 : Int32)))]))
  refine own_st (fun u_ k_ => XS.iconst X0.here hx rfl (hb hby own_d_method_2_4) k_) ?_
  refine own_st (fun u_ k_ => iremM X0 hx rfl (hb hby own_d_method_2_5) rfl (by decide) k_) ?_
  show own_Go p e below _ (s₁.setTop (mkF m 6 #[.val (.int k), .unset] [(.int ((k &&& (2147483647 : Int32)) % (5 : Int32)))]))
  refine own_st (fun u_ k_ => XS.istoreN X0.here hx rfl (hb hby own_d_method_2_6) rfl (l' := #[.val (.int k), .val (.int ((k &&& (2147483647 : Int32)) % (5 : Int32)))]) rfl k_) ?_
  refine own_st (fun u_ k_ => XS.iloadN X0.here hx rfl (hb hby own_d_method_2_7) rfl k_) ?_
  show own_Go p e below _ (s₁.setTop (mkF m 8 #[.val (.int k), .val (.int ((k &&& (2147483647 : Int32)) % (5 : Int32)))] [(.int ((k &&& (2147483647 : Int32)) % (5 : Int32)))]))
  by_cases hc307 : ((k &&& (2147483647 : Int32)) % (5 : Int32)) = (0 : Int32)
  · refine own_st (fun u_ k_ => XS.ifNo X0.here hx rfl (hb hby own_d_method_2_8) rfl (XT.i0_ne_f hc307) k_) ?_
    refine own_st (fun u_ k_ => XS.aconstNull X0.here hx rfl (hb hby own_d_method_2_11) k_) ?_
    show own_Go p e below _ (s₁.setTop (mkF m 12 #[.val (.int k), .val (.int ((k &&& (2147483647 : Int32)) % (5 : Int32)))] [.null]))
    exact own_retX X0 hx hlk hret rfl (Or.inr (Or.inr (Or.inr (Or.inr ⟨rfl, rfl, rfl⟩)))) (hb hby own_d_method_2_12) (by decide) (by decide) (show QrmMO Z w0 w1 w2 w3 wl wle wd mAL mUL mUR mOA wcs kle kd k h0 n0 (some .null) s₁.heap _ from (by rw [e0]; exact ⟨.null, rfl, N0, rfl, rfl, (Or.inl rfl)⟩))
  · refine own_st (fun u_ k_ => XS.ifYes X0.here hx rfl (pc0 := 8) (pc' := 13) rfl (hb hby own_d_method_2_8) rfl (XT.i0_ne_t hc307) (by decide) (by decide) k_) ?_
    refine own_st (fun u_ k_ => XS.iloadN X0.here hx rfl (hb hby own_d_method_2_13) rfl k_) ?_
    show own_Go p e below _ (s₁.setTop (mkF m 14 #[.val (.int k), .val (.int ((k &&& (2147483647 : Int32)) % (5 : Int32)))] [(.int ((k &&& (2147483647 : Int32)) % (5 : Int32)))]))
    refine own_st (fun u_ k_ => XS.iconst X0.here hx rfl (hb hby own_d_method_2_14) k_) ?_
    by_cases hc308 : ((k &&& (2147483647 : Int32)) % (5 : Int32)) = (1 : Int32)
    · refine own_st (fun u_ k_ => XS.icmpNo X0.here hx rfl (hb hby own_d_method_2_15) rfl (XT.ii_ne_f hc308) k_) ?_
      show own_Go p e below _ (s₁.setTop (mkF m 18 #[.val (.int k), .val (.int ((k &&& (2147483647 : Int32)) % (5 : Int32)))] []))
      have F309 := Sta.ext O0.2 hS.1
      obtain ⟨T310, X310, e310, st310⟩ := getS2 X0 hx hZ hown (host := "") (Or.inl (own_w hw 152 rfl)) Via.refl e0 F309 (g := (mkF m 18 #[.val (.int k), .val (.int ((k &&& (2147483647 : Int32)) % (5 : Int32)))] [])) rfl (hb hby own_d_method_2_18)
      refine own_st (fun u_ k_ => st310 u_ k_) ?_
      show own_Go p e below _ (T310.setTop (mkF m 21 #[.val (.int k), .val (.int ((k &&& (2147483647 : Int32)) % (5 : Int32)))] [(.ref w0)]))
      exact own_retX X310 hx hlk hret rfl (Or.inr (Or.inr (Or.inr (Or.inr ⟨rfl, rfl, rfl⟩)))) (hb hby own_d_method_2_21) (by decide) (by decide) (show QrmMO Z w0 w1 w2 w3 wl wle wd mAL mUL mUR mOA wcs kle kd k h0 n0 (some (.ref w0)) T310.heap _ from (by rw [e310]; exact ⟨(.ref w0), rfl, N0, rfl, rfl, (Or.inr ⟨_, rfl, hS.2.1⟩)⟩))
    · refine own_st (fun u_ k_ => XS.icmpYes X0.here hx rfl (pc0 := 15) (pc' := 22) rfl (hb hby own_d_method_2_15) rfl (XT.ii_ne_t hc308) (by decide) (by decide) k_) ?_
      show own_Go p e below _ (s₁.setTop (mkF m 22 #[.val (.int k), .val (.int ((k &&& (2147483647 : Int32)) % (5 : Int32)))] []))
      refine own_st (fun u_ k_ => XS.iloadN X0.here hx rfl (hb hby own_d_method_2_22) rfl k_) ?_
      refine own_st (fun u_ k_ => XS.iconst X0.here hx rfl (hb hby own_d_method_2_23) k_) ?_
      show own_Go p e below _ (s₁.setTop (mkF m 24 #[.val (.int k), .val (.int ((k &&& (2147483647 : Int32)) % (5 : Int32)))] [(.int (2 : Int32)), (.int ((k &&& (2147483647 : Int32)) % (5 : Int32)))]))
      by_cases hc311 : ((k &&& (2147483647 : Int32)) % (5 : Int32)) = (2 : Int32)
      · refine own_st (fun u_ k_ => XS.icmpNo X0.here hx rfl (hb hby own_d_method_2_24) rfl (XT.ii_ne_f hc311) k_) ?_
        have F312 := Sta.ext O0.2 hS.2.2.2.2.1
        obtain ⟨T313, X313, e313, st313⟩ := getS2 X0 hx hZ hown (host := "") (Or.inl (own_w hw 160 rfl)) Via.refl e0 F312 (g := (mkF m 27 #[.val (.int k), .val (.int ((k &&& (2147483647 : Int32)) % (5 : Int32)))] [])) rfl (hb hby own_d_method_2_27)
        refine own_st (fun u_ k_ => st313 u_ k_) ?_
        show own_Go p e below _ (T313.setTop (mkF m 30 #[.val (.int k), .val (.int ((k &&& (2147483647 : Int32)) % (5 : Int32)))] [(.ref w2)]))
        exact own_retX X313 hx hlk hret rfl (Or.inr (Or.inr (Or.inr (Or.inr ⟨rfl, rfl, rfl⟩)))) (hb hby own_d_method_2_30) (by decide) (by decide) (show QrmMO Z w0 w1 w2 w3 wl wle wd mAL mUL mUR mOA wcs kle kd k h0 n0 (some (.ref w2)) T313.heap _ from (by rw [e313]; exact ⟨(.ref w2), rfl, N0, rfl, rfl, (Or.inr ⟨_, rfl, hS.2.2.2.2.2.1⟩)⟩))
      · refine own_st (fun u_ k_ => XS.icmpYes X0.here hx rfl (pc0 := 24) (pc' := 31) rfl (hb hby own_d_method_2_24) rfl (XT.ii_ne_t hc311) (by decide) (by decide) k_) ?_
        refine own_st (fun u_ k_ => XS.iloadN X0.here hx rfl (hb hby own_d_method_2_31) rfl k_) ?_
        show own_Go p e below _ (s₁.setTop (mkF m 32 #[.val (.int k), .val (.int ((k &&& (2147483647 : Int32)) % (5 : Int32)))] [(.int ((k &&& (2147483647 : Int32)) % (5 : Int32)))]))
        refine own_st (fun u_ k_ => XS.iconst X0.here hx rfl (hb hby own_d_method_2_32) k_) ?_
        by_cases hc314 : ((k &&& (2147483647 : Int32)) % (5 : Int32)) = (3 : Int32)
        · refine own_st (fun u_ k_ => XS.icmpNo X0.here hx rfl (hb hby own_d_method_2_33) rfl (XT.ii_ne_f hc314) k_) ?_
          show own_Go p e below _ (s₁.setTop (mkF m 36 #[.val (.int k), .val (.int ((k &&& (2147483647 : Int32)) % (5 : Int32)))] []))
          have F315 := Sta.ext O0.2 hS.2.2.1
          obtain ⟨T316, X316, e316, st316⟩ := getS2 X0 hx hZ hown (host := "") (Or.inl (own_w hw 158 rfl)) Via.refl e0 F315 (g := (mkF m 36 #[.val (.int k), .val (.int ((k &&& (2147483647 : Int32)) % (5 : Int32)))] [])) rfl (hb hby own_d_method_2_36)
          refine own_st (fun u_ k_ => st316 u_ k_) ?_
          show own_Go p e below _ (T316.setTop (mkF m 39 #[.val (.int k), .val (.int ((k &&& (2147483647 : Int32)) % (5 : Int32)))] [(.ref w1)]))
          exact own_retX X316 hx hlk hret rfl (Or.inr (Or.inr (Or.inr (Or.inr ⟨rfl, rfl, rfl⟩)))) (hb hby own_d_method_2_39) (by decide) (by decide) (show QrmMO Z w0 w1 w2 w3 wl wle wd mAL mUL mUR mOA wcs kle kd k h0 n0 (some (.ref w1)) T316.heap _ from (by rw [e316]; exact ⟨(.ref w1), rfl, N0, rfl, rfl, (Or.inr ⟨_, rfl, hS.2.2.2.1⟩)⟩))
        · refine own_st (fun u_ k_ => XS.icmpYes X0.here hx rfl (pc0 := 33) (pc' := 40) rfl (hb hby own_d_method_2_33) rfl (XT.ii_ne_t hc314) (by decide) (by decide) k_) ?_
          show own_Go p e below _ (s₁.setTop (mkF m 40 #[.val (.int k), .val (.int ((k &&& (2147483647 : Int32)) % (5 : Int32)))] []))
          have F317 := Sta.ext O0.2 hS.2.2.2.2.2.2.1
          obtain ⟨T318, X318, e318, st318⟩ := getS2 X0 hx hZ hown (host := "") (Or.inl (own_w hw 329 rfl)) Via.refl e0 F317 (g := (mkF m 40 #[.val (.int k), .val (.int ((k &&& (2147483647 : Int32)) % (5 : Int32)))] [])) rfl (hb hby own_d_method_2_40)
          refine own_st (fun u_ k_ => st318 u_ k_) ?_
          show own_Go p e below _ (T318.setTop (mkF m 43 #[.val (.int k), .val (.int ((k &&& (2147483647 : Int32)) % (5 : Int32)))] [(.ref w3)]))
          exact own_retX X318 hx hlk hret rfl (Or.inr (Or.inr (Or.inr (Or.inr ⟨rfl, rfl, rfl⟩)))) (hb hby own_d_method_2_43) (by decide) (by decide) (show QrmMO Z w0 w1 w2 w3 wl wle wd mAL mUL mUR mOA wcs kle kd k h0 n0 (some (.ref w3)) T318.heap _ from (by rw [e318]; exact ⟨(.ref w3), rfl, N0, rfl, rfl, (Or.inr ⟨_, rfl, hS.2.2.2.2.2.2.2.1⟩)⟩))
theorem own_d_prog_17_27_0 : decode prog_17_method_27_code 0 = .ok (.aload_n 0, 1) := by decide +kernel
theorem own_d_prog_17_27_1 : decode prog_17_method_27_code 1 = .ok (.aload_n 1, 1) := by decide +kernel
theorem own_d_prog_17_27_2 : decode prog_17_method_27_code 2 = .ok (.putfield 134, 3) := by decide +kernel
theorem own_d_prog_17_27_5 : decode prog_17_method_27_code 5 = .ok (.aload_n 0, 1) := by decide +kernel
theorem own_d_prog_17_27_6 : decode prog_17_method_27_code 6 = .ok (.invokevirtual 76, 3) := by decide +kernel
theorem own_lm_611 : ("watchers" : String) ≠ "autowire" := by decide +kernel
def own_sn_612 {Z : State} {a0 : Array Value} (hw : own_H a0 Z) := slot_ne (Or.inr (own_w hw 139 rfl)) (Or.inl (own_w hw 148 rfl)) own_lm_611 (t := (.object "java/util/List")) (t' := (.object "com/example/temanggung/temanggung/beans/factory/Autowire")) own_lm_104 own_lm_379
theorem own_lm_613 : ("java/util/concurrent/CopyOnWriteArrayList" : String) ≠ "com/example/temanggung/temanggung/beans/factory/BeanDefinition" := by decide +kernel
theorem own_lm_614 : ("[Ljava/lang/Object;" : String) ≠ "com/example/temanggung/temanggung/beans/factory/BeanDefinition" := by decide +kernel
theorem own_lm_615 : ("com/example/temanggung/temanggung/beans/factory/BeanDefinition" : String) ≠ "java/lang/invoke/MethodHandle" ∧ ("com/example/temanggung/temanggung/beans/factory/BeanDefinition" : String) ≠ "java/lang/invoke/VarHandle" := by decide +kernel
theorem own_d_prog_17_27_9 : decode prog_17_method_27_code 9 = .ok (.return_, 1) := by decide +kernel
theorem own_lm_617 : ("qualifiers" : String) ≠ "autowire" := by decide +kernel
def own_sn_618 {Z : State} {a0 : Array Value} (hw : own_H a0 Z) := slot_ne (Or.inl (own_w hw 40 rfl)) (Or.inl (own_w hw 148 rfl)) own_lm_617 (t := (.object "java/util/List")) (t' := (.object "com/example/temanggung/temanggung/beans/factory/Autowire")) own_lm_104 own_lm_379
theorem own_lm_619 : ("dependsOn" : String) ≠ "autowire" := by decide +kernel
def own_sn_620 {Z : State} {a0 : Array Value} (hw : own_H a0 Z) := slot_ne (Or.inl (own_w hw 42 rfl)) (Or.inl (own_w hw 148 rfl)) own_lm_619 (t := (.object "java/util/List")) (t' := (.object "com/example/temanggung/temanggung/beans/factory/Autowire")) own_lm_104 own_lm_379
theorem own_lm_621 : ("constructorArguments" : String) ≠ "autowire" := by decide +kernel
def own_sn_622 {Z : State} {a0 : Array Value} (hw : own_H a0 Z) := slot_ne (Or.inr (own_w hw 68 rfl)) (Or.inl (own_w hw 148 rfl)) own_lm_621 (t := (.object "java/util/List")) (t' := (.object "com/example/temanggung/temanggung/beans/factory/Autowire")) own_lm_104 own_lm_379
theorem own_lm_623 : ("propertyValues" : String) ≠ "autowire" := by decide +kernel
def own_sn_624 {Z : State} {a0 : Array Value} (hw : own_H a0 Z) := slot_ne (Or.inr (own_w hw 115 rfl)) (Or.inl (own_w hw 148 rfl)) own_lm_623 (t := (.object "java/util/List")) (t' := (.object "com/example/temanggung/temanggung/beans/factory/Autowire")) own_lm_104 own_lm_379
theorem own_lm_625 : ("className" : String) ≠ "autowire" := by decide +kernel
def own_sn_626 {Z : State} {a0 : Array Value} (hw : own_H a0 Z) := slot_ne (Or.inl (own_w hw 141 rfl)) (Or.inl (own_w hw 148 rfl)) own_lm_625 (t := (.object "java/lang/String")) (t' := (.object "com/example/temanggung/temanggung/beans/factory/Autowire")) own_lm_319 own_lm_379
theorem own_lm_627 : ("value" : String) ≠ "autowire" := by decide +kernel
def own_sn_628 {Z : State} {a0 : Array Value} (hw : own_H a0 Z) := slot_ne (Or.inl (own_w hw 221 rfl)) (Or.inl (own_w hw 148 rfl)) own_lm_627 (t := (.object "com/example/temanggung/temanggung/beans/factory/DefinedValue")) (t' := (.object "com/example/temanggung/temanggung/beans/factory/Autowire")) own_lm_396 own_lm_379
theorem own_lm_629 : ("abstractDefinition" : String) ≠ "autowire" := by decide +kernel
def own_sn_630 {Z : State} {a0 : Array Value} (hw : own_H a0 Z) := slot_ne (Or.inl (own_w hw 223 rfl)) (Or.inl (own_w hw 148 rfl)) own_lm_629 (t := .boolean) (t' := (.object "com/example/temanggung/temanggung/beans/factory/Autowire")) own_lm_413 own_lm_379
theorem own_lm_631 : ("primary" : String) ≠ "autowire" := by decide +kernel
def own_sn_632 {Z : State} {a0 : Array Value} (hw : own_H a0 Z) := slot_ne (Or.inl (own_w hw 225 rfl)) (Or.inl (own_w hw 148 rfl)) own_lm_631 (t := .boolean) (t' := (.object "com/example/temanggung/temanggung/beans/factory/Autowire")) own_lm_413 own_lm_379
theorem own_lm_633 : ("scope" : String) ≠ "autowire" := by decide +kernel
def own_sn_634 {Z : State} {a0 : Array Value} (hw : own_H a0 Z) := slot_ne (Or.inl (own_w hw 227 rfl)) (Or.inl (own_w hw 148 rfl)) own_lm_633 (t := (.object "java/lang/String")) (t' := (.object "com/example/temanggung/temanggung/beans/factory/Autowire")) own_lm_319 own_lm_379
theorem own_lm_635 : ("lazyInit" : String) ≠ "autowire" := by decide +kernel
def own_sn_636 {Z : State} {a0 : Array Value} (hw : own_H a0 Z) := slot_ne (Or.inl (own_w hw 229 rfl)) (Or.inl (own_w hw 148 rfl)) own_lm_635 (t := (.object "java/lang/Boolean")) (t' := (.object "com/example/temanggung/temanggung/beans/factory/Autowire")) own_lm_462 own_lm_379
theorem own_lm_637 : ("factoryBeanName" : String) ≠ "autowire" := by decide +kernel
def own_sn_638 {Z : State} {a0 : Array Value} (hw : own_H a0 Z) := slot_ne (Or.inl (own_w hw 233 rfl)) (Or.inl (own_w hw 148 rfl)) own_lm_637 (t := (.object "java/lang/String")) (t' := (.object "com/example/temanggung/temanggung/beans/factory/Autowire")) own_lm_319 own_lm_379
theorem own_lm_639 : ("factoryMethodName" : String) ≠ "autowire" := by decide +kernel
def own_sn_640 {Z : State} {a0 : Array Value} (hw : own_H a0 Z) := slot_ne (Or.inl (own_w hw 235 rfl)) (Or.inl (own_w hw 148 rfl)) own_lm_639 (t := (.object "java/lang/String")) (t' := (.object "com/example/temanggung/temanggung/beans/factory/Autowire")) own_lm_319 own_lm_379
theorem own_lm_641 : ("initMethodName" : String) ≠ "autowire" := by decide +kernel
def own_sn_642 {Z : State} {a0 : Array Value} (hw : own_H a0 Z) := slot_ne (Or.inl (own_w hw 324 rfl)) (Or.inl (own_w hw 148 rfl)) own_lm_641 (t := (.object "java/lang/String")) (t' := (.object "com/example/temanggung/temanggung/beans/factory/Autowire")) own_lm_319 own_lm_379
theorem own_lm_643 : ("destroyMethodName" : String) ≠ "autowire" := by decide +kernel
def own_sn_644 {Z : State} {a0 : Array Value} (hw : own_H a0 Z) := slot_ne (Or.inl (own_w hw 326 rfl)) (Or.inl (own_w hw 148 rfl)) own_lm_643 (t := (.object "java/lang/String")) (t' := (.object "com/example/temanggung/temanggung/beans/factory/Autowire")) own_lm_319 own_lm_379
theorem own_lm_645 : ("origin" : String) ≠ "autowire" := by decide +kernel
def own_sn_646 {Z : State} {a0 : Array Value} (hw : own_H a0 Z) := slot_ne (Or.inl (own_w hw 328 rfl)) (Or.inl (own_w hw 148 rfl)) own_lm_645 (t := (.object "java/lang/String")) (t' := (.object "com/example/temanggung/temanggung/beans/factory/Autowire")) own_lm_319 own_lm_379
abbrev own_y_647 : MethodName := ⟨"com/example/temanggung/temanggung/beans/factory/BeanDefinition", "setAutowire", "(Lcom/example/temanggung/temanggung/beans/factory/Autowire;)V"⟩
theorem own_ef_rmSW (m : MethodId) (a : Addr) (u : Value) (hu : u.isRef = true) : entryFrame m #[(.ref a), u] 2 = mkF m 0 #[.val (.ref a), .val u] [] := by rcases ref_cases hu with rfl | ⟨_, rfl⟩ <;> first | (simp [entryFrame, mkF, argsToLocals, Value.category, maxLocals]; done) | rfl
def QrmSW (Z : State) (w0 w1 w2 w3 wl wle wd mAL mUL mUR mOA : Addr) (wcs : Int32) (kle kd : ClassId) (a : Addr) (u : Value) (o0 : Value) (ca : Addr) (pv : Addr) (wt : Addr) (ar : Addr) (kr : ClassId) (cn : Value) (h0 : Heap) (n0 : Nat) (v : Option Value) (h : Heap) (L : List Loc) : Prop := v = none ∧ Fr n0 L ∧ Keep h0 h [a] ∧ Exa Z h a own_c_235 ∧ Fld Z h a own_c_235 "qualifiers" "Ljava/util/List;" (.ref wl) ∧ Fld Z h a own_c_235 "dependsOn" "Ljava/util/List;" (.ref wl) ∧ Fld Z h a own_c_235 "constructorArguments" "Ljava/util/List;" (.ref ca) ∧ Fld Z h a own_c_235 "propertyValues" "Ljava/util/List;" (.ref pv) ∧ Fld Z h a own_c_235 "watchers" "Ljava/util/List;" (.ref wt) ∧ Fld Z h a own_c_235 "className" "Ljava/lang/String;" cn ∧ Fld Z h a own_c_235 "autowire" own_c_559 u ∧ Fld Z h a own_c_235 "value" own_c_560 .null ∧ Fld Z h a own_c_235 "abstractDefinition" "Z" (.int (0 : Int32)) ∧ Fld Z h a own_c_235 "primary" "Z" (.int (0 : Int32)) ∧ Fld Z h a own_c_235 "scope" "Ljava/lang/String;" .null ∧ Fld Z h a own_c_235 "lazyInit" "Ljava/lang/Boolean;" .null ∧ Fld Z h a own_c_235 "factoryBeanName" "Ljava/lang/String;" .null ∧ Fld Z h a own_c_235 "factoryMethodName" "Ljava/lang/String;" .null ∧ Fld Z h a own_c_235 "initMethodName" "Ljava/lang/String;" .null ∧ Fld Z h a own_c_235 "destroyMethodName" "Ljava/lang/String;" .null ∧ Fld Z h a own_c_235 "origin" "Ljava/lang/String;" .null
set_option maxRecDepth 65536 in
set_option maxHeartbeats 40000000 in
theorem rmSW (l : Launch) (Z : State) (a0 : Array Value) (hw : own_H a0 Z) (ws : List Jvm.Cond) (w0 w1 w2 w3 wl wle wd mAL mUL mUR mOA : Addr) (wcs : Int32) (kle kd : ClassId) (hS : own_S Z w0 w1 w2 w3 wl wle wd mAL mUL mUR mOA wcs kle kd) (a : Addr) (u : Value) (o0 : Value) (ca : Addr) (pv : Addr) (wt : Addr) (ar : Addr) (kr : ClassId) (cn : Value) (h0 : Heap) (n0 : Nat) (O0 : Old Z n0 h0) (ga : n0 ≤ a) (hu : u.isRef = true) (B0 : Exa Z h0 a own_c_235) (B1 : Fld Z h0 a own_c_235 "qualifiers" "Ljava/util/List;" (.ref wl)) (B2 : Fld Z h0 a own_c_235 "dependsOn" "Ljava/util/List;" (.ref wl)) (B3 : Fld Z h0 a own_c_235 "constructorArguments" "Ljava/util/List;" (.ref ca)) (B4 : Fld Z h0 a own_c_235 "propertyValues" "Ljava/util/List;" (.ref pv)) (B5 : Fld Z h0 a own_c_235 "watchers" "Ljava/util/List;" (.ref wt)) (B6 : Fld Z h0 a own_c_235 "className" "Ljava/lang/String;" cn) (B7 : Fld Z h0 a own_c_235 "autowire" own_c_559 o0) (B8 : Fld Z h0 a own_c_235 "value" own_c_560 .null) (B9 : Fld Z h0 a own_c_235 "abstractDefinition" "Z" (.int (0 : Int32))) (B10 : Fld Z h0 a own_c_235 "primary" "Z" (.int (0 : Int32))) (B11 : Fld Z h0 a own_c_235 "scope" "Ljava/lang/String;" .null) (B12 : Fld Z h0 a own_c_235 "lazyInit" "Ljava/lang/Boolean;" .null) (B13 : Fld Z h0 a own_c_235 "factoryBeanName" "Ljava/lang/String;" .null) (B14 : Fld Z h0 a own_c_235 "factoryMethodName" "Ljava/lang/String;" .null) (B15 : Fld Z h0 a own_c_235 "initMethodName" "Ljava/lang/String;" .null) (B16 : Fld Z h0 a own_c_235 "destroyMethodName" "Ljava/lang/String;" .null) (B17 : Fld Z h0 a own_c_235 "origin" "Ljava/lang/String;" .null) (C0 : Exa Z h0 wt own_c_157) (C1 : Fld Z h0 wt own_c_157 "array" "[Ljava/lang/Object;" (.ref ar)) (C2 : Arv Z h0 ar kr (.object "java/lang/Object") (0 : Int32) [] .null) (C3 : Exa Z h0 ar "[Ljava/lang/Object;") (hcn : cn.isRef = true) :
    own_Met l own_y_647 prog_17_method_27_code 2 none ws ({ frames := 4, cells := 1, slots := 2, locals := 54 } : Room) Z h0 #[(.ref a), u] (QrmSW Z w0 w1 w2 w3 wl wle wd mAL mUL mUR mOA wcs kle kd a u o0 ca pv wt ar kr cn h0 n0) := by
  refine own_body (plainFor_of_name own_pn_234) ?_
  intro p e s m below meth c s₁ hx hby hml hown hnm hret hlk hZ e0 X0
  have N0 := Fr.nil n0
  refine own_st (fun u_ k_ => castTop (own_ef_rmSW m a u hu) k_) ?_
  show own_Go p e below _ (s₁.setTop (mkF m 0 #[.val (.ref a), .val u] []))
  refine own_st (fun u_ k_ => XS.aloadN X0.here hx rfl (hb hby own_d_prog_17_27_0) rfl rfl k_) ?_
  refine own_st (fun u_ k_ => XS.aloadN X0.here hx rfl (hb hby own_d_prog_17_27_1) rfl hu k_) ?_
  show own_Go p e below _ (s₁.setTop (mkF m 2 #[.val (.ref a), .val u] [u, (.ref a)]))
  obtain ⟨T319, h319, X319, e319, W319, st319⟩ := putF X0 hx hZ hown (host := "") (Or.inl (own_w hw 147 rfl)) Via.refl e0 B7 B0 (Or.inl (own_w hw 148 rfl)) (own_w hw 27 rfl) (ty := (.object "com/example/temanggung/temanggung/beans/factory/Autowire")) own_lm_379 (own_narG hu) (own_fitG hu) (g := (mkF m 2 #[.val (.ref a), .val u] [u, (.ref a)])) rfl rfl (hb hby own_d_prog_17_27_2)
  have N319 := Fr.snoc X319 N0 ga
  have F320 : Fld Z h319 a own_c_235 "autowire" own_c_559 u := Fld.same W319 B7
  refine own_st (fun u_ k_ => st319 u_ k_) ?_
  show own_Go p e below _ (T319.setTop (mkF m 5 #[.val (.ref a), .val u] []))
  refine own_st (fun u_ k_ => XS.aloadN X319.here hx rfl (hb hby own_d_prog_17_27_5) rfl rfl k_) ?_
  have F321 := (Exa.wr W319 B0)
  have F322 := (Fld.other W319 B5 (Or.inr (own_sn_612 hw)))
  have F323 := (Exa.wr W319 C0)
  have ne324 : wt ≠ a := (ne_exa C0 B0 own_lm_613)
  have F325 := (Fld.other W319 C1 (Or.inl ne324))
  have ne326 : ar ≠ a := (ne_exa C3 B0 own_lm_614)
  have F327 := (C2.other W319 ne326)
  have F328 := (Exa.wr W319 C3)
  have O330 : Old Z n0 h319 := O0.wr W319 ga
  obtain ⟨T329, v329, L329, X329, hQ329, st329⟩ := own_callP X319 hx hZ (y := own_y_233) hown (own_w hw 167 rfl) (own_w hw 168 rfl) (own_selP hZ (own_w hw 27 rfl) (own_w hw 169 rfl) (own_w hw 168 rfl) own_lm_615) (own_w hw 169 rfl) (own_w hw 28 rfl) (own_w hw 170 rfl) own_lm_615 (rmCH l Z a0 hw [] w0 w1 w2 w3 wl wle wd mAL mUL mUR mOA wcs kle kd hS a wt ar kr h319 n0 O330 F321 F322 F323 F325 F327 F328) e319 F321 own_pd_65 (argsL := []) (rest := []) rfl rfl (g := (mkF m 6 #[.val (.ref a), .val u] [(.ref a)])) rfl (by rw [hml]; rfl) rfl (hb hby own_d_prog_17_27_6) (W := 0) rfl (by decide) (by decide) (by decide) (by decide)
  obtain ⟨rfl, M329, K329⟩ := hQ329
  have N329 := Fr.app N319 M329
  refine own_st (fun u_ k_ => st329 u_ k_) ?_
  show own_Go p e below _ (T329.setTop (mkF m 9 #[.val (.ref a), .val u] []))
  have K331 : Keep h0 h319 [a] := (Keep.refl h0 [a]).wr W319 (Or.inl (List.mem_of_getElem? (i := 0) rfl))
  have K332 : Keep h0 T329.heap [a] := K331.trans K329 all0
  have F333 := (F321.keep K329)
  have F334 := ((Fld.other W319 B1 (Or.inr (own_sn_618 hw))).keep K329 nin0)
  have F335 := ((Fld.other W319 B2 (Or.inr (own_sn_620 hw))).keep K329 nin0)
  have F336 := ((Fld.other W319 B3 (Or.inr (own_sn_622 hw))).keep K329 nin0)
  have F337 := ((Fld.other W319 B4 (Or.inr (own_sn_624 hw))).keep K329 nin0)
  have F338 := (F322.keep K329 nin0)
  have F339 := ((Fld.other W319 B6 (Or.inr (own_sn_626 hw))).keep K329 nin0)
  have F340 := (F320.keep K329 nin0)
  have F341 := ((Fld.other W319 B8 (Or.inr (own_sn_628 hw))).keep K329 nin0)
  have F342 := ((Fld.other W319 B9 (Or.inr (own_sn_630 hw))).keep K329 nin0)
  have F343 := ((Fld.other W319 B10 (Or.inr (own_sn_632 hw))).keep K329 nin0)
  have F344 := ((Fld.other W319 B11 (Or.inr (own_sn_634 hw))).keep K329 nin0)
  have F345 := ((Fld.other W319 B12 (Or.inr (own_sn_636 hw))).keep K329 nin0)
  have F346 := ((Fld.other W319 B13 (Or.inr (own_sn_638 hw))).keep K329 nin0)
  have F347 := ((Fld.other W319 B14 (Or.inr (own_sn_640 hw))).keep K329 nin0)
  have F348 := ((Fld.other W319 B15 (Or.inr (own_sn_642 hw))).keep K329 nin0)
  have F349 := ((Fld.other W319 B16 (Or.inr (own_sn_644 hw))).keep K329 nin0)
  have F350 := ((Fld.other W319 B17 (Or.inr (own_sn_646 hw))).keep K329 nin0)
  exact own_retV X329 hx hlk hret (hb hby own_d_prog_17_27_9) (by decide) (by decide) (show QrmSW Z w0 w1 w2 w3 wl wle wd mAL mUL mUR mOA wcs kle kd a u o0 ca pv wt ar kr cn h0 n0 none T329.heap _ from (by exact ⟨rfl, N329, K332, F333, F334, F335, F336, F337, F338, F339, F340, F341, F342, F343, F344, F345, F346, F347, F348, F349, F350⟩))
theorem own_d_prog_17_47_0 : decode prog_17_method_47_code 0 = .ok (.aload_n 0, 1) := by decide +kernel
theorem own_d_prog_17_47_1 : decode prog_17_method_47_code 1 = .ok (.ifnull 7, 3) := by decide +kernel
theorem own_d_prog_17_47_8 : decode prog_17_method_47_code 8 = .ok (.aload_n 1, 1) := by decide +kernel
theorem own_d_prog_17_47_9 : decode prog_17_method_47_code 9 = .ok (.areturn, 1) := by decide +kernel
abbrev own_y_652 : MethodName := ⟨"com/example/temanggung/temanggung/beans/factory/BeanDefinition", "either", "(Ljava/lang/Object;Ljava/lang/Object;)Ljava/lang/Object;"⟩
theorem own_ef_rmEN (m : MethodId)   : entryFrame m #[.null, .null] 2 = mkF m 0 #[.val .null, .val .null] [] := by first | (simp [entryFrame, mkF, argsToLocals, Value.category, maxLocals]; done) | rfl
def QrmEN (Z : State) (w0 w1 w2 w3 wl wle wd mAL mUL mUR mOA : Addr) (wcs : Int32) (kle kd : ClassId)  (h0 : Heap) (n0 : Nat) (v : Option Value) (h : Heap) (L : List Loc) : Prop := v = some .null ∧ Fr n0 L ∧ h = h0
set_option maxRecDepth 65536 in
set_option maxHeartbeats 40000000 in
theorem rmEN (l : Launch) (Z : State) (a0 : Array Value) (hw : own_H a0 Z) (ws : List Jvm.Cond) (w0 w1 w2 w3 wl wle wd mAL mUL mUR mOA : Addr) (wcs : Int32) (kle kd : ClassId) (hS : own_S Z w0 w1 w2 w3 wl wle wd mAL mUL mUR mOA wcs kle kd)  (h0 : Heap) (n0 : Nat) (O0 : Old Z n0 h0)  :
    own_Met l own_y_652 prog_17_method_47_code 2 (some (.object "java/lang/Object")) ws ({ frames := 0, cells := 0, slots := 0, locals := 0 } : Room) Z h0 #[.null, .null] (QrmEN Z w0 w1 w2 w3 wl wle wd mAL mUL mUR mOA wcs kle kd  h0 n0) := by
  refine own_body (plainFor_of_name own_pn_234) ?_
  intro p e s m below meth c s₁ hx hby hml hown hnm hret hlk hZ e0 X0
  have N0 := Fr.nil n0
  refine own_st (fun u_ k_ => castTop (own_ef_rmEN m ) k_) ?_
  show own_Go p e below _ (s₁.setTop (mkF m 0 #[.val .null, .val .null] []))
  refine own_st (fun u_ k_ => XS.aloadN X0.here hx rfl (hb hby own_d_prog_17_47_0) rfl rfl k_) ?_
  refine own_st (fun u_ k_ => XS.ifnullYes X0.here hx rfl (pc0 := 1) (pc' := 8) rfl (hb hby own_d_prog_17_47_1) rfl (by decide) (by decide) k_) ?_
  show own_Go p e below _ (s₁.setTop (mkF m 8 #[.val .null, .val .null] []))
  refine own_st (fun u_ k_ => XS.aloadN X0.here hx rfl (hb hby own_d_prog_17_47_8) rfl rfl k_) ?_
  exact own_retX X0 hx hlk hret rfl (Or.inr (Or.inr (Or.inr (Or.inr ⟨rfl, rfl, rfl⟩)))) (hb hby own_d_prog_17_47_9) (by decide) (by decide) (show QrmEN Z w0 w1 w2 w3 wl wle wd mAL mUL mUR mOA wcs kle kd  h0 n0 (some .null) s₁.heap _ from (by rw [e0]; exact ⟨rfl, N0, rfl⟩))
theorem own_d_prog_17_47_4 : decode prog_17_method_47_code 4 = .ok (.aload_n 0, 1) := by decide +kernel
theorem own_d_prog_17_47_5 : decode prog_17_method_47_code 5 = .ok (.goto 4, 3) := by decide +kernel
theorem own_ef_rmER (m : MethodId) (a : Addr)  : entryFrame m #[(.ref a), .null] 2 = mkF m 0 #[.val (.ref a), .val .null] [] := by first | (simp [entryFrame, mkF, argsToLocals, Value.category, maxLocals]; done) | rfl
def QrmER (Z : State) (w0 w1 w2 w3 wl wle wd mAL mUL mUR mOA : Addr) (wcs : Int32) (kle kd : ClassId) (a : Addr) (h0 : Heap) (n0 : Nat) (v : Option Value) (h : Heap) (L : List Loc) : Prop := v = some (.ref a) ∧ Fr n0 L ∧ h = h0
set_option maxRecDepth 65536 in
set_option maxHeartbeats 40000000 in
theorem rmER (l : Launch) (Z : State) (a0 : Array Value) (hw : own_H a0 Z) (ws : List Jvm.Cond) (w0 w1 w2 w3 wl wle wd mAL mUL mUR mOA : Addr) (wcs : Int32) (kle kd : ClassId) (hS : own_S Z w0 w1 w2 w3 wl wle wd mAL mUL mUR mOA wcs kle kd) (a : Addr) (h0 : Heap) (n0 : Nat) (O0 : Old Z n0 h0)  :
    own_Met l own_y_652 prog_17_method_47_code 2 (some (.object "java/lang/Object")) ws ({ frames := 0, cells := 0, slots := 0, locals := 0 } : Room) Z h0 #[(.ref a), .null] (QrmER Z w0 w1 w2 w3 wl wle wd mAL mUL mUR mOA wcs kle kd a h0 n0) := by
  refine own_body (plainFor_of_name own_pn_234) ?_
  intro p e s m below meth c s₁ hx hby hml hown hnm hret hlk hZ e0 X0
  have N0 := Fr.nil n0
  refine own_st (fun u_ k_ => castTop (own_ef_rmER m a) k_) ?_
  show own_Go p e below _ (s₁.setTop (mkF m 0 #[.val (.ref a), .val .null] []))
  refine own_st (fun u_ k_ => XS.aloadN X0.here hx rfl (hb hby own_d_prog_17_47_0) rfl rfl k_) ?_
  refine own_st (fun u_ k_ => XS.ifnullNo X0.here hx rfl (hb hby own_d_prog_17_47_1) rfl k_) ?_
  show own_Go p e below _ (s₁.setTop (mkF m 4 #[.val (.ref a), .val .null] []))
  refine own_st (fun u_ k_ => XS.aloadN X0.here hx rfl (hb hby own_d_prog_17_47_4) rfl rfl k_) ?_
  refine own_st (fun u_ k_ => XS.goto X0.here hx rfl (pc0 := 5) (pc' := 9) rfl (hb hby own_d_prog_17_47_5) (by decide) (by decide) k_) ?_
  show own_Go p e below _ (s₁.setTop (mkF m 9 #[.val (.ref a), .val .null] [(.ref a)]))
  exact own_retX X0 hx hlk hret rfl (Or.inr (Or.inr (Or.inr (Or.inr ⟨rfl, rfl, rfl⟩)))) (hb hby own_d_prog_17_47_9) (by decide) (by decide) (show QrmER Z w0 w1 w2 w3 wl wle wd mAL mUL mUR mOA wcs kle kd a h0 n0 (some (.ref a)) s₁.heap _ from (by rw [e0]; exact ⟨rfl, N0, rfl⟩))
theorem own_ef_rmEG (m : MethodId) (u : Value) (w : Value) (hu : u.isRef = true) (hw2 : w.isRef = true) : entryFrame m #[u, w] 2 = mkF m 0 #[.val u, .val w] [] := by rcases ref_cases hu with rfl | ⟨_, rfl⟩ <;> rcases ref_cases hw2 with rfl | ⟨_, rfl⟩ <;> first | (simp [entryFrame, mkF, argsToLocals, Value.category, maxLocals]; done) | rfl
def QrmEG (Z : State) (w0 w1 w2 w3 wl wle wd mAL mUL mUR mOA : Addr) (wcs : Int32) (kle kd : ClassId) (u : Value) (w : Value) (h0 : Heap) (n0 : Nat) (v : Option Value) (h : Heap) (L : List Loc) : Prop := v = some (own_or u w) ∧ Fr n0 L ∧ h = h0
set_option maxRecDepth 65536 in
set_option maxHeartbeats 40000000 in
theorem rmEG (l : Launch) (Z : State) (a0 : Array Value) (hw : own_H a0 Z) (ws : List Jvm.Cond) (w0 w1 w2 w3 wl wle wd mAL mUL mUR mOA : Addr) (wcs : Int32) (kle kd : ClassId) (hS : own_S Z w0 w1 w2 w3 wl wle wd mAL mUL mUR mOA wcs kle kd) (u : Value) (w : Value) (h0 : Heap) (n0 : Nat) (O0 : Old Z n0 h0) (hu : u.isRef = true) (hw2 : w.isRef = true) :
    own_Met l own_y_652 prog_17_method_47_code 2 (some (.object "java/lang/Object")) ws ({ frames := 0, cells := 0, slots := 0, locals := 0 } : Room) Z h0 #[u, w] (QrmEG Z w0 w1 w2 w3 wl wle wd mAL mUL mUR mOA wcs kle kd u w h0 n0) := by
  refine own_body (plainFor_of_name own_pn_234) ?_
  intro p e s m below meth c s₁ hx hby hml hown hnm hret hlk hZ e0 X0
  have N0 := Fr.nil n0
  refine own_st (fun u_ k_ => castTop (own_ef_rmEG m u w hu hw2) k_) ?_
  show own_Go p e below _ (s₁.setTop (mkF m 0 #[.val u, .val w] []))
  refine own_st (fun u_ k_ => XS.aloadN X0.here hx rfl (hb hby own_d_prog_17_47_0) rfl hu k_) ?_
  rcases ref_cases hu with rfl | ⟨r351, rfl⟩
  · show own_Go p e below _ (s₁.setTop (mkF m 1 #[.val .null, .val w] [.null]))
    refine own_st (fun u_ k_ => XS.ifnullYes X0.here hx rfl (pc0 := 1) (pc' := 8) rfl (hb hby own_d_prog_17_47_1) rfl (by decide) (by decide) k_) ?_
    show own_Go p e below _ (s₁.setTop (mkF m 8 #[.val .null, .val w] []))
    refine own_st (fun u_ k_ => XS.aloadN X0.here hx rfl (hb hby own_d_prog_17_47_8) rfl hw2 k_) ?_
    exact own_retX X0 hx hlk hret (own_narG hw2) (Or.inr (Or.inr (Or.inr (Or.inr ⟨rfl, rfl, hw2⟩)))) (hb hby own_d_prog_17_47_9) (by decide) (by decide) (show QrmEG Z w0 w1 w2 w3 wl wle wd mAL mUL mUR mOA wcs kle kd (.null : Value) w h0 n0 (some w) s₁.heap _ from (by rw [e0]; exact ⟨rfl, N0, rfl⟩))
  · show own_Go p e below _ (s₁.setTop (mkF m 1 #[.val (.ref r351), .val w] [(.ref r351)]))
    refine own_st (fun u_ k_ => XS.ifnullNo X0.here hx rfl (hb hby own_d_prog_17_47_1) rfl k_) ?_
    show own_Go p e below _ (s₁.setTop (mkF m 4 #[.val (.ref r351), .val w] []))
    refine own_st (fun u_ k_ => XS.aloadN X0.here hx rfl (hb hby own_d_prog_17_47_4) rfl rfl k_) ?_
    refine own_st (fun u_ k_ => XS.goto X0.here hx rfl (pc0 := 5) (pc' := 9) rfl (hb hby own_d_prog_17_47_5) (by decide) (by decide) k_) ?_
    show own_Go p e below _ (s₁.setTop (mkF m 9 #[.val (.ref r351), .val w] [(.ref r351)]))
    exact own_retX X0 hx hlk hret rfl (Or.inr (Or.inr (Or.inr (Or.inr ⟨rfl, rfl, rfl⟩)))) (hb hby own_d_prog_17_47_9) (by decide) (by decide) (show QrmEG Z w0 w1 w2 w3 wl wle wd mAL mUL mUR mOA wcs kle kd ((.ref r351) : Value) w h0 n0 (some (.ref r351)) s₁.heap _ from (by rw [e0]; exact ⟨rfl, N0, rfl⟩))
theorem own_d_jdk_45_2_0 : decode jdk_45_method_2_code 0 = .ok (.aload_n 0, 1) := by decide +kernel
theorem own_d_jdk_45_2_1 : decode jdk_45_method_2_code 1 = .ok (.getfield 7, 3) := by decide +kernel
theorem own_d_jdk_45_2_4 : decode jdk_45_method_2_code 4 = .ok (.arraylength, 1) := by decide +kernel
theorem own_d_jdk_45_2_5 : decode jdk_45_method_2_code 5 = .ok (.ifCond .ne 7, 3) := by decide +kernel
theorem own_d_jdk_45_2_8 : decode jdk_45_method_2_code 8 = .ok (.iconst 1, 1) := by decide +kernel
theorem own_d_jdk_45_2_9 : decode jdk_45_method_2_code 9 = .ok (.goto 4, 3) := by decide +kernel
theorem own_d_jdk_45_2_13 : decode jdk_45_method_2_code 13 = .ok (.ireturn, 1) := by decide +kernel
abbrev own_y_662 : MethodName := ⟨"java/util/ImmutableCollections$ListN", "isEmpty", "()Z"⟩
theorem own_pn_663 : plainName "java/util/ImmutableCollections$ListN" = true := by first | (simp [plainName, overriddenIn]; done) | decide +kernel
theorem own_ef_rmLE (m : MethodId)   : entryFrame m #[(.ref wl)] 1 = mkF m 0 #[.val (.ref wl)] [] := by first | (simp [entryFrame, mkF, argsToLocals, Value.category, maxLocals]; done) | rfl
def QrmLE (Z : State) (w0 w1 w2 w3 wl wle wd mAL mUL mUR mOA : Addr) (wcs : Int32) (kle kd : ClassId)  (h0 : Heap) (n0 : Nat) (v : Option Value) (h : Heap) (L : List Loc) : Prop := v = some (.int (1 : Int32)) ∧ Fr n0 L ∧ h = h0
set_option maxRecDepth 65536 in
set_option maxHeartbeats 40000000 in
theorem rmLE (l : Launch) (Z : State) (a0 : Array Value) (hw : own_H a0 Z) (ws : List Jvm.Cond) (w0 w1 w2 w3 wl wle wd mAL mUL mUR mOA : Addr) (wcs : Int32) (kle kd : ClassId) (hS : own_S Z w0 w1 w2 w3 wl wle wd mAL mUL mUR mOA wcs kle kd)  (h0 : Heap) (n0 : Nat) (O0 : Old Z n0 h0)  :
    own_Met l own_y_662 jdk_45_method_2_code 1 (some .boolean) ws ({ frames := 0, cells := 0, slots := 0, locals := 0 } : Room) Z h0 #[(.ref wl)] (QrmLE Z w0 w1 w2 w3 wl wle wd mAL mUL mUR mOA wcs kle kd  h0 n0) := by
  refine own_body (plainFor_of_name own_pn_663) ?_
  intro p e s m below meth c s₁ hx hby hml hown hnm hret hlk hZ e0 X0
  have N0 := Fr.nil n0
  refine own_st (fun u_ k_ => castTop (own_ef_rmLE m ) k_) ?_
  show own_Go p e below _ (s₁.setTop (mkF m 0 #[.val (.ref wl)] []))
  refine own_st (fun u_ k_ => XS.aloadN X0.here hx rfl (hb hby own_d_jdk_45_2_0) rfl rfl k_) ?_
  have F352 := Fld.ext O0.2 hS.2.2.2.2.2.2.2.2.2.2.2.2.1
  obtain ⟨T353, X353, e353, st353⟩ := getF X0 hx hZ hown (host := "") (Or.inl (own_w hw 246 rfl)) Via.refl e0 F352 (g := (mkF m 1 #[.val (.ref wl)] [(.ref wl)])) rfl rfl (hb hby own_d_jdk_45_2_1)
  refine own_st (fun u_ k_ => st353 u_ k_) ?_
  show own_Go p e below _ (T353.setTop (mkF m 4 #[.val (.ref wl)] [(.ref wle)]))
  have F354 := Arv.ext hS.2.2.2.2.2.2.2.2.2.2.2.2.2.1 O0.2
  obtain ⟨cl355, Ar355, -, S355, N355, -, -⟩ := id F354
  refine own_st (X353.arraylength hx (by rw [e353]; exact Ar355.1) (State.isArrayOf_alike hZ.alike Ar355.2.1) (g := (mkF m 4 #[.val (.ref wl)] [(.ref wle)])) rfl rfl (hb hby own_d_jdk_45_2_4)) ?_
  rw [len_of S355 N355]
  show own_Go p e below _ (T353.setTop (mkF m 5 #[.val (.ref wl)] [(.int (0 : Int32))]))
  refine own_st (fun u_ k_ => XS.ifNo X353.here hx rfl (hb hby own_d_jdk_45_2_5) rfl (XT.i0_ne_f (by decide)) k_) ?_
  refine own_st (fun u_ k_ => XS.iconst X353.here hx rfl (hb hby own_d_jdk_45_2_8) k_) ?_
  show own_Go p e below _ (T353.setTop (mkF m 9 #[.val (.ref wl)] [(.int (1 : Int32))]))
  refine own_st (fun u_ k_ => XS.goto X353.here hx rfl (pc0 := 9) (pc' := 13) rfl (hb hby own_d_jdk_45_2_9) (by decide) (by decide) k_) ?_
  exact own_retX X353 hx hlk hret rfl (Or.inl ⟨rfl, by simp, _, rfl⟩) (hb hby own_d_jdk_45_2_13) (by decide) (by decide) (show QrmLE Z w0 w1 w2 w3 wl wle wd mAL mUL mUR mOA wcs kle kd  h0 n0 (some (.int (1 : Int32))) T353.heap _ from (by rw [e353]; exact ⟨rfl, N0, rfl⟩))
theorem own_d_jdk_38_9_0 : decode jdk_38_method_9_code 0 = .ok (.aload_n 0, 1) := by decide +kernel
theorem own_d_jdk_38_9_1 : decode jdk_38_method_9_code 1 = .ok (.getfield 48, 3) := by decide +kernel
theorem own_d_jdk_38_9_4 : decode jdk_38_method_9_code 4 = .ok (.ifCond .ne 7, 3) := by decide +kernel
theorem own_d_jdk_38_9_7 : decode jdk_38_method_9_code 7 = .ok (.iconst 1, 1) := by decide +kernel
theorem own_d_jdk_38_9_8 : decode jdk_38_method_9_code 8 = .ok (.goto 4, 3) := by decide +kernel
theorem own_d_jdk_38_9_12 : decode jdk_38_method_9_code 12 = .ok (.ireturn, 1) := by decide +kernel
abbrev own_y_670 : MethodName := ⟨"java/util/ArrayList", "isEmpty", "()Z"⟩
theorem own_ef_rmAE (m : MethodId) (a : Addr)  : entryFrame m #[(.ref a)] 1 = mkF m 0 #[.val (.ref a)] [] := by first | (simp [entryFrame, mkF, argsToLocals, Value.category, maxLocals]; done) | rfl
def QrmAE (Z : State) (w0 w1 w2 w3 wl wle wd mAL mUL mUR mOA : Addr) (wcs : Int32) (kle kd : ClassId) (a : Addr) (h0 : Heap) (n0 : Nat) (v : Option Value) (h : Heap) (L : List Loc) : Prop := v = some (.int (1 : Int32)) ∧ Fr n0 L ∧ h = h0
set_option maxRecDepth 65536 in
set_option maxHeartbeats 40000000 in
theorem rmAE (l : Launch) (Z : State) (a0 : Array Value) (hw : own_H a0 Z) (ws : List Jvm.Cond) (w0 w1 w2 w3 wl wle wd mAL mUL mUR mOA : Addr) (wcs : Int32) (kle kd : ClassId) (hS : own_S Z w0 w1 w2 w3 wl wle wd mAL mUL mUR mOA wcs kle kd) (a : Addr) (h0 : Heap) (n0 : Nat) (O0 : Old Z n0 h0) (F1 : Fld Z h0 a "java/util/ArrayList" "size" "I" (.int (0 : Int32))) :
    own_Met l own_y_670 jdk_38_method_9_code 1 (some .boolean) ws ({ frames := 0, cells := 0, slots := 0, locals := 0 } : Room) Z h0 #[(.ref a)] (QrmAE Z w0 w1 w2 w3 wl wle wd mAL mUL mUR mOA wcs kle kd a h0 n0) := by
  refine own_body (plainFor_of_name own_pn_91) ?_
  intro p e s m below meth c s₁ hx hby hml hown hnm hret hlk hZ e0 X0
  have N0 := Fr.nil n0
  refine own_st (fun u_ k_ => castTop (own_ef_rmAE m a) k_) ?_
  show own_Go p e below _ (s₁.setTop (mkF m 0 #[.val (.ref a)] []))
  refine own_st (fun u_ k_ => XS.aloadN X0.here hx rfl (hb hby own_d_jdk_38_9_0) rfl rfl k_) ?_
  obtain ⟨T356, X356, e356, st356⟩ := getF X0 hx hZ hown (host := "") (Or.inl (own_w hw 253 rfl)) Via.refl e0 F1 (g := (mkF m 1 #[.val (.ref a)] [(.ref a)])) rfl rfl (hb hby own_d_jdk_38_9_1)
  refine own_st (fun u_ k_ => st356 u_ k_) ?_
  show own_Go p e below _ (T356.setTop (mkF m 4 #[.val (.ref a)] [(.int (0 : Int32))]))
  refine own_st (fun u_ k_ => XS.ifNo X356.here hx rfl (hb hby own_d_jdk_38_9_4) rfl (XT.i0_ne_f (by decide)) k_) ?_
  refine own_st (fun u_ k_ => XS.iconst X356.here hx rfl (hb hby own_d_jdk_38_9_7) k_) ?_
  show own_Go p e below _ (T356.setTop (mkF m 8 #[.val (.ref a)] [(.int (1 : Int32))]))
  refine own_st (fun u_ k_ => XS.goto X356.here hx rfl (pc0 := 8) (pc' := 12) rfl (hb hby own_d_jdk_38_9_8) (by decide) (by decide) k_) ?_
  exact own_retX X356 hx hlk hret rfl (Or.inl ⟨rfl, by simp, _, rfl⟩) (hb hby own_d_jdk_38_9_12) (by decide) (by decide) (show QrmAE Z w0 w1 w2 w3 wl wle wd mAL mUL mUR mOA wcs kle kd a h0 n0 (some (.int (1 : Int32))) T356.heap _ from (by rw [e356]; exact ⟨rfl, N0, rfl⟩))
theorem own_d_jdk_29_69_0 : decode jdk_29_method_69_code 0 = .ok (.iload_n 0, 1) := by decide +kernel
theorem own_d_jdk_29_69_1 : decode jdk_29_method_69_code 1 = .ok (.iload_n 1, 1) := by decide +kernel
theorem own_d_jdk_29_69_2 : decode jdk_29_method_69_code 2 = .ok (.if_icmp .gt 7, 3) := by decide +kernel
theorem own_d_jdk_29_69_5 : decode jdk_29_method_69_code 5 = .ok (.iload_n 0, 1) := by decide +kernel
theorem own_d_jdk_29_69_6 : decode jdk_29_method_69_code 6 = .ok (.goto 4, 3) := by decide +kernel
theorem own_d_jdk_29_69_10 : decode jdk_29_method_69_code 10 = .ok (.ireturn, 1) := by decide +kernel
abbrev own_y_677 : MethodName := ⟨"java/lang/Math", "min", "(II)I"⟩
theorem own_pf_678 : plainFor own_y_677 = true := by decide +kernel
theorem own_ef_rmMin (m : MethodId)   : entryFrame m #[(.int (0 : Int32)), (.int (0 : Int32))] 2 = mkF m 0 #[.val (.int (0 : Int32)), .val (.int (0 : Int32))] [] := by first | (simp [entryFrame, mkF, argsToLocals, Value.category, maxLocals]; done) | rfl
def QrmMin (Z : State) (w0 w1 w2 w3 wl wle wd mAL mUL mUR mOA : Addr) (wcs : Int32) (kle kd : ClassId)  (h0 : Heap) (n0 : Nat) (v : Option Value) (h : Heap) (L : List Loc) : Prop := v = some (.int (0 : Int32)) ∧ Fr n0 L ∧ h = h0
set_option maxRecDepth 65536 in
set_option maxHeartbeats 40000000 in
theorem rmMin (l : Launch) (Z : State) (a0 : Array Value) (hw : own_H a0 Z) (ws : List Jvm.Cond) (w0 w1 w2 w3 wl wle wd mAL mUL mUR mOA : Addr) (wcs : Int32) (kle kd : ClassId) (hS : own_S Z w0 w1 w2 w3 wl wle wd mAL mUL mUR mOA wcs kle kd)  (h0 : Heap) (n0 : Nat) (O0 : Old Z n0 h0)  :
    own_Met l own_y_677 jdk_29_method_69_code 2 (some .int) ws ({ frames := 0, cells := 0, slots := 0, locals := 0 } : Room) Z h0 #[(.int (0 : Int32)), (.int (0 : Int32))] (QrmMin Z w0 w1 w2 w3 wl wle wd mAL mUL mUR mOA wcs kle kd  h0 n0) := by
  refine own_body own_pf_678 ?_
  intro p e s m below meth c s₁ hx hby hml hown hnm hret hlk hZ e0 X0
  have N0 := Fr.nil n0
  refine own_st (fun u_ k_ => castTop (own_ef_rmMin m ) k_) ?_
  show own_Go p e below _ (s₁.setTop (mkF m 0 #[.val (.int (0 : Int32)), .val (.int (0 : Int32))] []))
  refine own_st (fun u_ k_ => XS.iloadN X0.here hx rfl (hb hby own_d_jdk_29_69_0) rfl k_) ?_
  refine own_st (fun u_ k_ => XS.iloadN X0.here hx rfl (hb hby own_d_jdk_29_69_1) rfl k_) ?_
  show own_Go p e below _ (s₁.setTop (mkF m 2 #[.val (.int (0 : Int32)), .val (.int (0 : Int32))] [(.int (0 : Int32)), (.int (0 : Int32))]))
  refine own_st (fun u_ k_ => XS.icmpNo X0.here hx rfl (hb hby own_d_jdk_29_69_2) rfl (XT.ii_gt_f (by decide)) k_) ?_
  refine own_st (fun u_ k_ => XS.iloadN X0.here hx rfl (hb hby own_d_jdk_29_69_5) rfl k_) ?_
  show own_Go p e below _ (s₁.setTop (mkF m 6 #[.val (.int (0 : Int32)), .val (.int (0 : Int32))] [(.int (0 : Int32))]))
  refine own_st (fun u_ k_ => XS.goto X0.here hx rfl (pc0 := 6) (pc' := 10) rfl (hb hby own_d_jdk_29_69_6) (by decide) (by decide) k_) ?_
  exact own_retX X0 hx hlk hret rfl (Or.inl ⟨rfl, by simp, _, rfl⟩) (hb hby own_d_jdk_29_69_10) (by decide) (by decide) (show QrmMin Z w0 w1 w2 w3 wl wle wd mAL mUL mUR mOA wcs kle kd  h0 n0 (some (.int (0 : Int32))) s₁.heap _ from (by rw [e0]; exact ⟨rfl, N0, rfl⟩))
theorem own_d_jdk_65_120_0 : decode jdk_65_method_120_code 0 = .ok (.aload_n 2, 1) := by decide +kernel
theorem own_d_jdk_65_120_1 : decode jdk_65_method_120_code 1 = .ok (.ldc 110, 2) := by decide +kernel
theorem own_d_jdk_65_120_3 : decode jdk_65_method_120_code 3 = .ok (.if_acmp .ne 10, 3) := by decide +kernel
theorem own_d_jdk_65_120_6 : decode jdk_65_method_120_code 6 = .ok (.iload_n 1, 1) := by decide +kernel
theorem own_d_jdk_65_120_7 : decode jdk_65_method_120_code 7 = .ok (.anewarray 2, 3) := by decide +kernel
theorem own_d_jdk_65_120_10 : decode jdk_65_method_120_code 10 = .ok (.goto 14, 3) := by decide +kernel
theorem own_d_jdk_65_120_24 : decode jdk_65_method_120_code 24 = .ok (.astore_n 3, 1) := by decide +kernel
theorem own_d_jdk_65_120_25 : decode jdk_65_method_120_code 25 = .ok (.aload_n 0, 1) := by decide +kernel
theorem own_d_jdk_65_120_26 : decode jdk_65_method_120_code 26 = .ok (.iconst 0, 1) := by decide +kernel
theorem own_d_jdk_65_120_27 : decode jdk_65_method_120_code 27 = .ok (.aload_n 3, 1) := by decide +kernel
theorem own_d_jdk_65_120_28 : decode jdk_65_method_120_code 28 = .ok (.iconst 0, 1) := by decide +kernel
theorem own_d_jdk_65_120_29 : decode jdk_65_method_120_code 29 = .ok (.aload_n 0, 1) := by decide +kernel
theorem own_d_jdk_65_120_30 : decode jdk_65_method_120_code 30 = .ok (.arraylength, 1) := by decide +kernel
theorem own_d_jdk_65_120_31 : decode jdk_65_method_120_code 31 = .ok (.iload_n 1, 1) := by decide +kernel
theorem own_d_jdk_65_120_32 : decode jdk_65_method_120_code 32 = .ok (.invokestatic 304, 3) := by decide +kernel
theorem own_lm_694 : ("java/lang/Math" : String) ≠ "java/lang/invoke/MethodHandle" ∧ ("java/lang/Math" : String) ≠ "java/lang/invoke/VarHandle" := by decide +kernel
theorem own_pd_695 : parseMethodDescriptor "(II)I" = some ⟨[.int, .int], some .int⟩ := by decide +kernel
theorem own_d_jdk_65_120_35 : decode jdk_65_method_120_code 35 = .ok (.invokestatic 150, 3) := by decide +kernel
theorem own_d_jdk_65_120_38 : decode jdk_65_method_120_code 38 = .ok (.aload_n 3, 1) := by decide +kernel
theorem own_d_jdk_65_120_39 : decode jdk_65_method_120_code 39 = .ok (.areturn, 1) := by decide +kernel
abbrev own_y_699 : MethodName := ⟨"java/util/Arrays", "copyOf", "([Ljava/lang/Object;ILjava/lang/Class;)[Ljava/lang/Object;"⟩
theorem own_pn_700 : plainName "java/util/Arrays" = true := by first | (simp [plainName, overriddenIn]; done) | decide +kernel
theorem own_ef_rmC3 (m : MethodId)   : entryFrame m #[(.ref wd), (.int (0 : Int32)), (.ref mOA)] 4 = mkF m 0 #[.val (.ref wd), .val (.int (0 : Int32)), .val (.ref mOA), .unset] [] := by first | (simp [entryFrame, mkF, argsToLocals, Value.category, maxLocals]; done) | rfl
def QrmC3 (Z : State) (w0 w1 w2 w3 wl wle wd mAL mUL mUR mOA : Addr) (wcs : Int32) (kle kd : ClassId)  (h0 : Heap) (n0 : Nat) (v : Option Value) (h : Heap) (L : List Loc) : Prop := ∃ r : Addr, ∃ kr : ClassId, v = some (.ref r) ∧ Fr n0 L ∧ Keep h0 h [] ∧ h0.size ≤ r ∧ Arv Z h r kr (.object "java/lang/Object") (0 : Int32) [] .null
set_option maxRecDepth 65536 in
set_option maxHeartbeats 40000000 in
theorem rmC3 (l : Launch) (Z : State) (a0 : Array Value) (hw : own_H a0 Z) (ws : List Jvm.Cond) (w0 w1 w2 w3 wl wle wd mAL mUL mUR mOA : Addr) (wcs : Int32) (kle kd : ClassId) (hS : own_S Z w0 w1 w2 w3 wl wle wd mAL mUL mUR mOA wcs kle kd)  (h0 : Heap) (n0 : Nat) (O0 : Old Z n0 h0)  :
    own_Met l own_y_699 jdk_65_method_120_code 4 (some (.array (.object "java/lang/Object"))) ws ({ frames := 1, cells := 1, slots := 0, locals := 27 } : Room) Z h0 #[(.ref wd), (.int (0 : Int32)), (.ref mOA)] (QrmC3 Z w0 w1 w2 w3 wl wle wd mAL mUL mUR mOA wcs kle kd  h0 n0) := by
  refine own_body (plainFor_of_name own_pn_700) ?_
  intro p e s m below meth c s₁ hx hby hml hown hnm hret hlk hZ e0 X0
  have N0 := Fr.nil n0
  refine own_st (fun u_ k_ => castTop (own_ef_rmC3 m ) k_) ?_
  show own_Go p e below _ (s₁.setTop (mkF m 0 #[.val (.ref wd), .val (.int (0 : Int32)), .val (.ref mOA), .unset] []))
  refine own_st (fun u_ k_ => XS.aloadN X0.here hx rfl (hb hby own_d_jdk_65_120_0) rfl rfl k_) ?_
  obtain ⟨T357, X357, e357, st357⟩ := own_ldcM X0 hx hZ hown (own_w hw 282 rfl) e0 hS.2.2.2.2.2.2.2.2.2.2.2.2.2.2.2.2.2.2.2.2 (g := (mkF m 1 #[.val (.ref wd), .val (.int (0 : Int32)), .val (.ref mOA), .unset] [(.ref mOA)])) rfl (hb hby own_d_jdk_65_120_1)
  refine own_st (fun u_ k_ => st357 u_ k_) ?_
  show own_Go p e below _ (T357.setTop (mkF m 3 #[.val (.ref wd), .val (.int (0 : Int32)), .val (.ref mOA), .unset] [(.ref mOA), (.ref mOA)]))
  refine own_st (fun u_ k_ => XT.acmpNo X357.here hx rfl (hb hby own_d_jdk_65_120_3) rfl rfl rfl (XT.aa_ne_f rfl) k_) ?_
  show own_Go p e below _ (T357.setTop (mkF m 6 #[.val (.ref wd), .val (.int (0 : Int32)), .val (.ref mOA), .unset] []))
  refine own_st (fun u_ k_ => XS.iloadN X357.here hx rfl (hb hby own_d_jdk_65_120_6) rfl k_) ?_
  obtain ⟨T358, h358, k358, X358, e358, E358, A358, Y358, O358, st358⟩ := newRE X357 hx hZ hown (own_w hw 283 rfl) (own_w hw 130 rfl) e357 (g := (mkF m 7 #[.val (.ref wd), .val (.int (0 : Int32)), .val (.ref mOA), .unset] [(.int (0 : Int32))])) rfl (hb hby own_d_jdk_65_120_7) rfl (by decide) (cap := 0) (by decide) (by decide) (by decide) (by decide) (ad := "[Ljava/lang/Object;") own_lm_172
  obtain ⟨b358, g358⟩ : ∃ z, z = h0.size := ⟨_, rfl⟩
  rw [← g358] at A358 Y358 st358
  have V358 : Arv Z h358 b358 k358 (.object "java/lang/Object") (0 : Int32) [] .null := (Arv.new A358 (by decide)).pad (pad_rep [] .null 0)
  refine own_st (fun u_ k_ => st358 u_ k_) ?_
  show own_Go p e below _ (T358.setTop (mkF m 10 #[.val (.ref wd), .val (.int (0 : Int32)), .val (.ref mOA), .unset] [(.ref b358)]))
  refine own_st (fun u_ k_ => XS.goto X358.here hx rfl (pc0 := 10) (pc' := 24) rfl (hb hby own_d_jdk_65_120_10) (by decide) (by decide) k_) ?_
  refine own_st (fun u_ k_ => XS.astoreN X358.here hx rfl (hb hby own_d_jdk_65_120_24) rfl rfl (l' := #[.val (.ref wd), .val (.int (0 : Int32)), .val (.ref mOA), .val (.ref b358)]) rfl k_) ?_
  show own_Go p e below _ (T358.setTop (mkF m 25 #[.val (.ref wd), .val (.int (0 : Int32)), .val (.ref mOA), .val (.ref b358)] []))
  refine own_st (fun u_ k_ => XS.aloadN X358.here hx rfl (hb hby own_d_jdk_65_120_25) rfl rfl k_) ?_
  refine own_st (fun u_ k_ => XS.iconst X358.here hx rfl (hb hby own_d_jdk_65_120_26) k_) ?_
  show own_Go p e below _ (T358.setTop (mkF m 27 #[.val (.ref wd), .val (.int (0 : Int32)), .val (.ref mOA), .val (.ref b358)] [(.int (0 : Int32)), (.ref wd)]))
  refine own_st (fun u_ k_ => XS.aloadN X358.here hx rfl (hb hby own_d_jdk_65_120_27) rfl rfl k_) ?_
  refine own_st (fun u_ k_ => XS.iconst X358.here hx rfl (hb hby own_d_jdk_65_120_28) k_) ?_
  show own_Go p e below _ (T358.setTop (mkF m 29 #[.val (.ref wd), .val (.int (0 : Int32)), .val (.ref mOA), .val (.ref b358)] [(.int (0 : Int32)), (.ref b358), (.int (0 : Int32)), (.ref wd)]))
  refine own_st (fun u_ k_ => XS.aloadN X358.here hx rfl (hb hby own_d_jdk_65_120_29) rfl rfl k_) ?_
  have O359 : Old Z n0 h358 := O0.ext E358
  have F360 := Arv.ext hS.2.2.2.2.2.2.2.2.2.2.2.2.2.2.2.2.1 O359.2
  obtain ⟨cl361, Ar361, -, S361, N361, -, -⟩ := id F360
  refine own_st (X358.arraylength hx (by rw [e358]; exact Ar361.1) (State.isArrayOf_alike hZ.alike Ar361.2.1) (g := (mkF m 30 #[.val (.ref wd), .val (.int (0 : Int32)), .val (.ref mOA), .val (.ref b358)] [(.ref wd), (.int (0 : Int32)), (.ref b358), (.int (0 : Int32)), (.ref wd)])) rfl rfl (hb hby own_d_jdk_65_120_30)) ?_
  rw [len_of S361 N361]
  show own_Go p e below _ (T358.setTop (mkF m 31 #[.val (.ref wd), .val (.int (0 : Int32)), .val (.ref mOA), .val (.ref b358)] [(.int (0 : Int32)), (.int (0 : Int32)), (.ref b358), (.int (0 : Int32)), (.ref wd)]))
  refine own_st (fun u_ k_ => XS.iloadN X358.here hx rfl (hb hby own_d_jdk_65_120_31) rfl k_) ?_
  show own_Go p e below _ (T358.setTop (mkF m 32 #[.val (.ref wd), .val (.int (0 : Int32)), .val (.ref mOA), .val (.ref b358)] [(.int (0 : Int32)), (.int (0 : Int32)), (.int (0 : Int32)), (.ref b358), (.int (0 : Int32)), (.ref wd)]))
  obtain ⟨T362, v362, L362, X362, hQ362, st362⟩ := own_callS X358 hx hZ (y := own_y_677) hown (own_w hw 284 rfl) (own_w hw 285 rfl) (own_w hw 286 rfl) (own_w hw 287 rfl) own_lm_694 (rmMin l Z a0 hw [] w0 w1 w2 w3 wl wle wd mAL mUL mUR mOA wcs kle kd hS  h358 n0 O359 ) e358 own_pd_695 (argsL := [(.int (0 : Int32)), (.int (0 : Int32))]) (rest := [(.int (0 : Int32)), (.ref b358), (.int (0 : Int32)), (.ref wd)]) rfl rfl (g := (mkF m 32 #[.val (.ref wd), .val (.int (0 : Int32)), .val (.ref mOA), .val (.ref b358)] [(.int (0 : Int32)), (.int (0 : Int32)), (.int (0 : Int32)), (.ref b358), (.int (0 : Int32)), (.ref wd)])) rfl (by rw [hml]; rfl) rfl (hb hby own_d_jdk_65_120_32) (W := 4) rfl (by decide) (by decide) (by decide) (by decide)
  obtain ⟨rfl, M362, e362⟩ := hQ362
  have N362 := Fr.app N0 M362
  refine own_st (fun u_ k_ => st362 u_ k_) ?_
  show own_Go p e below _ (T362.setTop (mkF m 35 #[.val (.ref wd), .val (.int (0 : Int32)), .val (.ref mOA), .val (.ref b358)] [(.int (0 : Int32)), (.int (0 : Int32)), (.ref b358), (.int (0 : Int32)), (.ref wd)]))
  obtain ⟨cl364, Ar364, q364, S364, N364, H364, G364⟩ := id V358
  have g365 : n0 ≤ b358 := Nat.le_trans (own_nl O0) (Nat.le_of_eq g358.symm)
  obtain ⟨T363, h363, L363, X363, e363, N363, K363, V363, st363⟩ := cpA X362 hx hZ hown (own_w hw 288 rfl) (own_w hw 291 rfl) (own_w hw 289 rfl) (own_w hw 290 rfl) e362 F360 V358 (us := []) (Or.inr ⟨rfl, rfl, trivial⟩) (by decide) (by decide) (by decide) (by decide) (by decide) rfl (by decide) N362 g365 (g := (mkF m 35 #[.val (.ref wd), .val (.int (0 : Int32)), .val (.ref mOA), .val (.ref b358)] [(.int (0 : Int32)), (.int (0 : Int32)), (.ref b358), (.int (0 : Int32)), (.ref wd)])) rfl (by rw [hml]; rfl) rfl (hb hby own_d_jdk_65_120_35) (by decide) (W := 0) (by show 2 * 0 + _ ≤ _; exact Nat.le_of_eq rfl) (by decide)
  have V366 : Arv Z h363 b358 k358 (.object "java/lang/Object") (0 : Int32) [] .null := V363
  refine own_st (fun u_ k_ => st363 u_ k_) ?_
  show own_Go p e below _ (T363.setTop (mkF m 38 #[.val (.ref wd), .val (.int (0 : Int32)), .val (.ref mOA), .val (.ref b358)] []))
  refine own_st (fun u_ k_ => XS.aloadN X363.here hx rfl (hb hby own_d_jdk_65_120_38) rfl rfl k_) ?_
  have K367 : Keep h0 h358 [] := (Keep.refl h0 []).ext E358
  have z369 : h0.size ≤ b358 := Nat.le_trans (Nat.le_refl _) (Nat.le_of_eq g358.symm)
  have K368 : Keep h0 h363 [] := K367.trans K363 (allS (Or.inr z369) all0)
  exact own_retX X363 hx hlk hret rfl (Or.inr (Or.inr (Or.inr (Or.inr ⟨rfl, rfl, rfl⟩)))) (hb hby own_d_jdk_65_120_39) (by decide) (by decide) (show QrmC3 Z w0 w1 w2 w3 wl wle wd mAL mUL mUR mOA wcs kle kd  h0 n0 (some (.ref b358)) T363.heap _ from (by rw [e363]; exact ⟨b358, k358, rfl, N363, K368, z369, V366⟩))
theorem own_d_jdk_65_119_0 : decode jdk_65_method_119_code 0 = .ok (.aload_n 0, 1) := by decide +kernel
theorem own_d_jdk_65_119_1 : decode jdk_65_method_119_code 1 = .ok (.iload_n 1, 1) := by decide +kernel
theorem own_d_jdk_65_119_2 : decode jdk_65_method_119_code 2 = .ok (.aload_n 0, 1) := by decide +kernel
theorem own_d_jdk_65_119_3 : decode jdk_65_method_119_code 3 = .ok (.invokevirtual 86, 3) := by decide +kernel
theorem own_d_jdk_65_119_6 : decode jdk_65_method_119_code 6 = .ok (.invokestatic 300, 3) := by decide +kernel
theorem own_lm_706 : ("java/util/Arrays" : String) ≠ "java/lang/invoke/MethodHandle" ∧ ("java/util/Arrays" : String) ≠ "java/lang/invoke/VarHandle" := by decide +kernel
theorem own_pd_707 : parseMethodDescriptor "([Ljava/lang/Object;ILjava/lang/Class;)[Ljava/lang/Object;" = some ⟨[(.array (.object "java/lang/Object")), .int, (.object "java/lang/Class")], some (.array (.object "java/lang/Object"))⟩ := by decide +kernel
theorem own_d_jdk_65_119_9 : decode jdk_65_method_119_code 9 = .ok (.areturn, 1) := by decide +kernel
abbrev own_y_709 : MethodName := ⟨"java/util/Arrays", "copyOf", "([Ljava/lang/Object;I)[Ljava/lang/Object;"⟩
theorem own_ef_rmC2 (m : MethodId)   : entryFrame m #[(.ref wd), (.int (0 : Int32))] 2 = mkF m 0 #[.val (.ref wd), .val (.int (0 : Int32))] [] := by first | (simp [entryFrame, mkF, argsToLocals, Value.category, maxLocals]; done) | rfl
def QrmC2 (Z : State) (w0 w1 w2 w3 wl wle wd mAL mUL mUR mOA : Addr) (wcs : Int32) (kle kd : ClassId)  (h0 : Heap) (n0 : Nat) (v : Option Value) (h : Heap) (L : List Loc) : Prop := ∃ r : Addr, ∃ kr : ClassId, v = some (.ref r) ∧ Fr n0 L ∧ Keep h0 h [] ∧ h0.size ≤ r ∧ Arv Z h r kr (.object "java/lang/Object") (0 : Int32) [] .null
set_option maxRecDepth 65536 in
set_option maxHeartbeats 40000000 in
theorem rmC2 (l : Launch) (Z : State) (a0 : Array Value) (hw : own_H a0 Z) (ws : List Jvm.Cond) (w0 w1 w2 w3 wl wle wd mAL mUL mUR mOA : Addr) (wcs : Int32) (kle kd : ClassId) (hS : own_S Z w0 w1 w2 w3 wl wle wd mAL mUL mUR mOA wcs kle kd)  (h0 : Heap) (n0 : Nat) (O0 : Old Z n0 h0)  :
    own_Met l own_y_709 jdk_65_method_119_code 2 (some (.array (.object "java/lang/Object"))) ws ({ frames := 2, cells := 1, slots := 0, locals := 42 } : Room) Z h0 #[(.ref wd), (.int (0 : Int32))] (QrmC2 Z w0 w1 w2 w3 wl wle wd mAL mUL mUR mOA wcs kle kd  h0 n0) := by
  refine own_body (plainFor_of_name own_pn_700) ?_
  intro p e s m below meth c s₁ hx hby hml hown hnm hret hlk hZ e0 X0
  have N0 := Fr.nil n0
  refine own_st (fun u_ k_ => castTop (own_ef_rmC2 m ) k_) ?_
  show own_Go p e below _ (s₁.setTop (mkF m 0 #[.val (.ref wd), .val (.int (0 : Int32))] []))
  refine own_st (fun u_ k_ => XS.aloadN X0.here hx rfl (hb hby own_d_jdk_65_119_0) rfl rfl k_) ?_
  refine own_st (fun u_ k_ => XS.iloadN X0.here hx rfl (hb hby own_d_jdk_65_119_1) rfl k_) ?_
  show own_Go p e below _ (s₁.setTop (mkF m 2 #[.val (.ref wd), .val (.int (0 : Int32))] [(.int (0 : Int32)), (.ref wd)]))
  refine own_st (fun u_ k_ => XS.aloadN X0.here hx rfl (hb hby own_d_jdk_65_119_2) rfl rfl k_) ?_
  have F370 := Exa.ext O0.2 hS.2.2.2.2.2.2.2.2.2.2.2.2.2.2.2.1
  obtain ⟨T371, X371, e371, st371⟩ := own_gcls X0 hx hZ hown (own_w hw 276 rfl) (own_w hw 74 rfl) (own_w hw 277 rfl) (own_w hw 77 rfl) (own_w hw 81 rfl) e0 F370 hS.2.2.2.2.2.2.2.2.2.2.2.2.2.2.2.2.2.2.2.2 (g := (mkF m 3 #[.val (.ref wd), .val (.int (0 : Int32))] [(.ref wd), (.int (0 : Int32)), (.ref wd)])) rfl (by rw [hml]; rfl) rfl (hb hby own_d_jdk_65_119_3) (by decide) (W := 2) (by show 2 * 0 + _ ≤ _; exact Nat.le_of_eq rfl) (by decide)
  refine own_st (fun u_ k_ => st371 u_ k_) ?_
  show own_Go p e below _ (T371.setTop (mkF m 6 #[.val (.ref wd), .val (.int (0 : Int32))] [(.ref mOA), (.int (0 : Int32)), (.ref wd)]))
  obtain ⟨T372, v372, L372, X372, hQ372, st372⟩ := own_callS X371 hx hZ (y := own_y_699) hown (own_w hw 279 rfl) (own_w hw 280 rfl) (own_w hw 274 rfl) (own_w hw 281 rfl) own_lm_706 (rmC3 l Z a0 hw [] w0 w1 w2 w3 wl wle wd mAL mUL mUR mOA wcs kle kd hS  h0 n0 O0 ) e371 own_pd_707 (argsL := [(.ref wd), (.int (0 : Int32)), (.ref mOA)]) (rest := []) rfl rfl (g := (mkF m 6 #[.val (.ref wd), .val (.int (0 : Int32))] [(.ref mOA), (.int (0 : Int32)), (.ref wd)])) rfl (by rw [hml]; rfl) rfl (hb hby own_d_jdk_65_119_6) (W := 0) rfl (by decide) (by decide) (by decide) (by decide)
  obtain ⟨r_373, kr_374, rfl, M372, K372, z375, F376⟩ := hQ372
  have N372 := Fr.app N0 M372
  refine own_st (fun u_ k_ => st372 u_ k_) ?_
  show own_Go p e below _ (T372.setTop (mkF m 9 #[.val (.ref wd), .val (.int (0 : Int32))] [(.ref r_373)]))
  have K377 : Keep h0 T372.heap [] := (Keep.refl h0 []).trans K372 all0
  have z378 : h0.size ≤ r_373 := Nat.le_trans (Nat.le_refl _) z375
  exact own_retX X372 hx hlk hret rfl (Or.inr (Or.inr (Or.inr (Or.inr ⟨rfl, rfl, rfl⟩)))) (hb hby own_d_jdk_65_119_9) (by decide) (by decide) (show QrmC2 Z w0 w1 w2 w3 wl wle wd mAL mUL mUR mOA wcs kle kd  h0 n0 (some (.ref r_373)) T372.heap _ from (by exact ⟨r_373, kr_374, rfl, N372, K377, z378, F376⟩))
theorem own_d_jdk_38_16_0 : decode jdk_38_method_16_code 0 = .ok (.aload_n 0, 1) := by decide +kernel
theorem own_d_jdk_38_16_1 : decode jdk_38_method_16_code 1 = .ok (.getfield 9, 3) := by decide +kernel
theorem own_d_jdk_38_16_4 : decode jdk_38_method_16_code 4 = .ok (.aload_n 0, 1) := by decide +kernel
theorem own_d_jdk_38_16_5 : decode jdk_38_method_16_code 5 = .ok (.getfield 48, 3) := by decide +kernel
theorem own_d_jdk_38_16_8 : decode jdk_38_method_16_code 8 = .ok (.invokestatic 66, 3) := by decide +kernel
theorem own_pd_715 : parseMethodDescriptor "([Ljava/lang/Object;I)[Ljava/lang/Object;" = some ⟨[(.array (.object "java/lang/Object")), .int], some (.array (.object "java/lang/Object"))⟩ := by decide +kernel
theorem own_d_jdk_38_16_11 : decode jdk_38_method_16_code 11 = .ok (.areturn, 1) := by decide +kernel
abbrev own_y_717 : MethodName := ⟨"java/util/ArrayList", "toArray", "()[Ljava/lang/Object;"⟩
theorem own_ef_rmTA (m : MethodId) (a : Addr)  : entryFrame m #[(.ref a)] 1 = mkF m 0 #[.val (.ref a)] [] := by first | (simp [entryFrame, mkF, argsToLocals, Value.category, maxLocals]; done) | rfl
def QrmTA (Z : State) (w0 w1 w2 w3 wl wle wd mAL mUL mUR mOA : Addr) (wcs : Int32) (kle kd : ClassId) (a : Addr) (h0 : Heap) (n0 : Nat) (v : Option Value) (h : Heap) (L : List Loc) : Prop := ∃ r : Addr, ∃ kr : ClassId, v = some (.ref r) ∧ Fr n0 L ∧ Keep h0 h [] ∧ h0.size ≤ r ∧ Arv Z h r kr (.object "java/lang/Object") (0 : Int32) [] .null
set_option maxRecDepth 65536 in
set_option maxHeartbeats 40000000 in
theorem rmTA (l : Launch) (Z : State) (a0 : Array Value) (hw : own_H a0 Z) (ws : List Jvm.Cond) (w0 w1 w2 w3 wl wle wd mAL mUL mUR mOA : Addr) (wcs : Int32) (kle kd : ClassId) (hS : own_S Z w0 w1 w2 w3 wl wle wd mAL mUL mUR mOA wcs kle kd) (a : Addr) (h0 : Heap) (n0 : Nat) (O0 : Old Z n0 h0) (F1 : Fld Z h0 a "java/util/ArrayList" "size" "I" (.int (0 : Int32))) (F2 : Fld Z h0 a "java/util/ArrayList" "elementData" "[Ljava/lang/Object;" (.ref wd)) :
    own_Met l own_y_717 jdk_38_method_16_code 1 (some (.array (.object "java/lang/Object"))) ws ({ frames := 3, cells := 1, slots := 0, locals := 55 } : Room) Z h0 #[(.ref a)] (QrmTA Z w0 w1 w2 w3 wl wle wd mAL mUL mUR mOA wcs kle kd a h0 n0) := by
  refine own_body (plainFor_of_name own_pn_91) ?_
  intro p e s m below meth c s₁ hx hby hml hown hnm hret hlk hZ e0 X0
  have N0 := Fr.nil n0
  refine own_st (fun u_ k_ => castTop (own_ef_rmTA m a) k_) ?_
  show own_Go p e below _ (s₁.setTop (mkF m 0 #[.val (.ref a)] []))
  refine own_st (fun u_ k_ => XS.aloadN X0.here hx rfl (hb hby own_d_jdk_38_16_0) rfl rfl k_) ?_
  obtain ⟨T379, X379, e379, st379⟩ := getF X0 hx hZ hown (host := "") (Or.inl (own_w hw 65 rfl)) Via.refl e0 F2 (g := (mkF m 1 #[.val (.ref a)] [(.ref a)])) rfl rfl (hb hby own_d_jdk_38_16_1)
  refine own_st (fun u_ k_ => st379 u_ k_) ?_
  show own_Go p e below _ (T379.setTop (mkF m 4 #[.val (.ref a)] [(.ref wd)]))
  refine own_st (fun u_ k_ => XS.aloadN X379.here hx rfl (hb hby own_d_jdk_38_16_4) rfl rfl k_) ?_
  obtain ⟨T380, X380, e380, st380⟩ := getF X379 hx hZ hown (host := "") (Or.inl (own_w hw 253 rfl)) Via.refl e379 F1 (g := (mkF m 5 #[.val (.ref a)] [(.ref a), (.ref wd)])) rfl rfl (hb hby own_d_jdk_38_16_5)
  refine own_st (fun u_ k_ => st380 u_ k_) ?_
  show own_Go p e below _ (T380.setTop (mkF m 8 #[.val (.ref a)] [(.int (0 : Int32)), (.ref wd)]))
  obtain ⟨T381, v381, L381, X381, hQ381, st381⟩ := own_callS X380 hx hZ (y := own_y_709) hown (own_w hw 272 rfl) (own_w hw 273 rfl) (own_w hw 274 rfl) (own_w hw 275 rfl) own_lm_706 (rmC2 l Z a0 hw [] w0 w1 w2 w3 wl wle wd mAL mUL mUR mOA wcs kle kd hS  h0 n0 O0 ) e380 own_pd_715 (argsL := [(.ref wd), (.int (0 : Int32))]) (rest := []) rfl rfl (g := (mkF m 8 #[.val (.ref a)] [(.int (0 : Int32)), (.ref wd)])) rfl (by rw [hml]; rfl) rfl (hb hby own_d_jdk_38_16_8) (W := 0) rfl (by decide) (by decide) (by decide) (by decide)
  obtain ⟨r_382, kr_383, rfl, M381, K381, z384, F385⟩ := hQ381
  have N381 := Fr.app N0 M381
  refine own_st (fun u_ k_ => st381 u_ k_) ?_
  show own_Go p e below _ (T381.setTop (mkF m 11 #[.val (.ref a)] [(.ref r_382)]))
  have K386 : Keep h0 T381.heap [] := (Keep.refl h0 []).trans K381 all0
  have z387 : h0.size ≤ r_382 := Nat.le_trans (Nat.le_refl _) z384
  exact own_retX X381 hx hlk hret rfl (Or.inr (Or.inr (Or.inr (Or.inr ⟨rfl, rfl, rfl⟩)))) (hb hby own_d_jdk_38_16_11) (by decide) (by decide) (show QrmTA Z w0 w1 w2 w3 wl wle wd mAL mUL mUR mOA wcs kle kd a h0 n0 (some (.ref r_382)) T381.heap _ from (by exact ⟨r_382, kr_383, rfl, N381, K386, z387, F385⟩))
theorem own_d_jdk_38_41_0 : decode jdk_38_method_41_code 0 = .ok (.aload_n 1, 1) := by decide +kernel
theorem own_d_jdk_38_41_1 : decode jdk_38_method_41_code 1 = .ok (.invokeinterface 42 1, 5) := by decide +kernel
abbrev own_y_720 : MethodName := ⟨"java/util/Collection", "toArray", "()[Ljava/lang/Object;"⟩
theorem own_lm_721 : ("java/util/Collection" : String) ≠ "java/lang/invoke/MethodHandle" ∧ ("java/util/Collection" : String) ≠ "java/lang/invoke/VarHandle" := by decide +kernel
theorem own_d_jdk_38_41_6 : decode jdk_38_method_41_code 6 = .ok (.astore_n 2, 1) := by decide +kernel
theorem own_d_jdk_38_41_7 : decode jdk_38_method_41_code 7 = .ok (.aload_n 0, 1) := by decide +kernel
theorem own_d_jdk_38_41_8 : decode jdk_38_method_41_code 8 = .ok (.dup, 1) := by decide +kernel
theorem own_d_jdk_38_41_9 : decode jdk_38_method_41_code 9 = .ok (.getfield 63, 3) := by decide +kernel
theorem own_d_jdk_38_41_12 : decode jdk_38_method_41_code 12 = .ok (.iconst 1, 1) := by decide +kernel
theorem own_d_jdk_38_41_13 : decode jdk_38_method_41_code 13 = .ok (.iadd, 1) := by decide +kernel
theorem own_d_jdk_38_41_14 : decode jdk_38_method_41_code 14 = .ok (.putfield 63, 3) := by decide +kernel
theorem own_d_jdk_38_41_17 : decode jdk_38_method_41_code 17 = .ok (.aload_n 2, 1) := by decide +kernel
theorem own_d_jdk_38_41_18 : decode jdk_38_method_41_code 18 = .ok (.arraylength, 1) := by decide +kernel
theorem own_d_jdk_38_41_19 : decode jdk_38_method_41_code 19 = .ok (.istore_n 3, 1) := by decide +kernel
theorem own_d_jdk_38_41_20 : decode jdk_38_method_41_code 20 = .ok (.iload_n 3, 1) := by decide +kernel
theorem own_d_jdk_38_41_21 : decode jdk_38_method_41_code 21 = .ok (.ifCond .ne 5, 3) := by decide +kernel
theorem own_d_jdk_38_41_24 : decode jdk_38_method_41_code 24 = .ok (.iconst 0, 1) := by decide +kernel
theorem own_d_jdk_38_41_25 : decode jdk_38_method_41_code 25 = .ok (.ireturn, 1) := by decide +kernel
abbrev own_y_736 : MethodName := ⟨"java/util/ArrayList", "addAll", "(Ljava/util/Collection;)Z"⟩
theorem own_ef_rmAA (m : MethodId) (a : Addr) (b : Addr)  : entryFrame m #[(.ref a), (.ref b)] 6 = mkF m 0 #[.val (.ref a), .val (.ref b), .unset, .unset, .unset, .unset] [] := by first | (simp [entryFrame, mkF, argsToLocals, Value.category, maxLocals]; done) | rfl
def QrmAA (Z : State) (w0 w1 w2 w3 wl wle wd mAL mUL mUR mOA : Addr) (wcs : Int32) (kle kd : ClassId) (a : Addr) (b : Addr) (h0 : Heap) (n0 : Nat) (v : Option Value) (h : Heap) (L : List Loc) : Prop := v = some (.int (0 : Int32)) ∧ Fr n0 L ∧ Keep h0 h [a] ∧ Exa Z h a "java/util/ArrayList"
set_option maxRecDepth 65536 in
set_option maxHeartbeats 40000000 in
theorem rmAA (l : Launch) (Z : State) (a0 : Array Value) (hw : own_H a0 Z) (ws : List Jvm.Cond) (w0 w1 w2 w3 wl wle wd mAL mUL mUR mOA : Addr) (wcs : Int32) (kle kd : ClassId) (hS : own_S Z w0 w1 w2 w3 wl wle wd mAL mUL mUR mOA wcs kle kd) (a : Addr) (b : Addr) (h0 : Heap) (n0 : Nat) (O0 : Old Z n0 h0) (E : Exa Z h0 a "java/util/ArrayList") (ga : n0 ≤ a) (F0 : Fld Z h0 a own_c_70 "modCount" "I" (.int (0 : Int32))) (Eb : Exa Z h0 b "java/util/ArrayList") (F1 : Fld Z h0 b "java/util/ArrayList" "size" "I" (.int (0 : Int32))) (F2 : Fld Z h0 b "java/util/ArrayList" "elementData" "[Ljava/lang/Object;" (.ref wd)) :
    own_Met l own_y_736 jdk_38_method_41_code 6 (some .boolean) ws ({ frames := 4, cells := 1, slots := 0, locals := 67 } : Room) Z h0 #[(.ref a), (.ref b)] (QrmAA Z w0 w1 w2 w3 wl wle wd mAL mUL mUR mOA wcs kle kd a b h0 n0) := by
  refine own_body (plainFor_of_name own_pn_91) ?_
  intro p e s m below meth c s₁ hx hby hml hown hnm hret hlk hZ e0 X0
  have N0 := Fr.nil n0
  refine own_st (fun u_ k_ => castTop (own_ef_rmAA m a b) k_) ?_
  show own_Go p e below _ (s₁.setTop (mkF m 0 #[.val (.ref a), .val (.ref b), .unset, .unset, .unset, .unset] []))
  refine own_st (fun u_ k_ => XS.aloadN X0.here hx rfl (hb hby own_d_jdk_38_41_0) rfl rfl k_) ?_
  obtain ⟨T388, v388, L388, X388, hQ388, st388⟩ := own_callI X0 hx hZ (y := own_y_720) (z := own_y_717) hown (own_w hw 263 rfl) (own_w hw 264 rfl) (mvT hZ (own_w hw 265 rfl)) (own_w hw 266 rfl) (own_w hw 267 rfl) (own_w hw 268 rfl) (own_w hw 269 rfl) (own_w hw 270 rfl) (own_w hw 45 rfl) (own_w hw 271 rfl) own_lm_721 (rmTA l Z a0 hw [] w0 w1 w2 w3 wl wle wd mAL mUL mUR mOA wcs kle kd hS b h0 n0 O0 F1 F2) e0 Eb own_pd_204 (argsL := []) (rest := []) rfl rfl (g := (mkF m 1 #[.val (.ref a), .val (.ref b), .unset, .unset, .unset, .unset] [(.ref b)])) rfl (by rw [hml]; rfl) rfl (hb hby own_d_jdk_38_41_1) (W := 0) rfl (by decide) (by decide) (by decide) (by decide)
  obtain ⟨r_389, kr_390, rfl, M388, K388, z391, F392⟩ := hQ388
  have N388 := Fr.app N0 M388
  refine own_st (fun u_ k_ => st388 u_ k_) ?_
  show own_Go p e below _ (T388.setTop (mkF m 6 #[.val (.ref a), .val (.ref b), .unset, .unset, .unset, .unset] [(.ref r_389)]))
  refine own_st (fun u_ k_ => XS.astoreN X388.here hx rfl (hb hby own_d_jdk_38_41_6) rfl rfl (l' := #[.val (.ref a), .val (.ref b), .val (.ref r_389), .unset, .unset, .unset]) rfl k_) ?_
  refine own_st (fun u_ k_ => XS.aloadN X388.here hx rfl (hb hby own_d_jdk_38_41_7) rfl rfl k_) ?_
  show own_Go p e below _ (T388.setTop (mkF m 8 #[.val (.ref a), .val (.ref b), .val (.ref r_389), .unset, .unset, .unset] [(.ref a)]))
  refine own_st (fun u_ k_ => XS.dup X388.here hx rfl (hb hby own_d_jdk_38_41_8) rfl rfl k_) ?_
  have F393 := (F0.keep K388 nin0)
  obtain ⟨T394, X394, e394, st394⟩ := getF X388 hx hZ hown (host := "") (Or.inl (own_w hw 292 rfl)) (Via.of (own_w hw 293 rfl)) rfl F393 (g := (mkF m 9 #[.val (.ref a), .val (.ref b), .val (.ref r_389), .unset, .unset, .unset] [(.ref a), (.ref a)])) rfl rfl (hb hby own_d_jdk_38_41_9)
  refine own_st (fun u_ k_ => st394 u_ k_) ?_
  show own_Go p e below _ (T394.setTop (mkF m 12 #[.val (.ref a), .val (.ref b), .val (.ref r_389), .unset, .unset, .unset] [(.int (0 : Int32)), (.ref a)]))
  refine own_st (fun u_ k_ => XS.iconst X394.here hx rfl (hb hby own_d_jdk_38_41_12) k_) ?_
  refine own_st (fun u_ k_ => XS.iadd X394.here hx rfl (hb hby own_d_jdk_38_41_13) rfl k_) ?_
  show own_Go p e below _ (T394.setTop (mkF m 14 #[.val (.ref a), .val (.ref b), .val (.ref r_389), .unset, .unset, .unset] [(.int (1 : Int32)), (.ref a)]))
  have F395 := (E.keep K388)
  obtain ⟨T396, h396, X396, e396, W396, st396⟩ := putF X394 hx hZ hown (host := "") (Or.inl (own_w hw 292 rfl)) (Via.of (own_w hw 293 rfl)) e394 F393 F395 (Or.inl (own_w hw 63 rfl)) (own_w hw 44 rfl) (ty := .int) own_lm_69 rfl rfl (g := (mkF m 14 #[.val (.ref a), .val (.ref b), .val (.ref r_389), .unset, .unset, .unset] [(.int (1 : Int32)), (.ref a)])) rfl rfl (hb hby own_d_jdk_38_41_14)
  have N396 := Fr.snoc X396 N388 ga
  have F397 : Fld Z h396 a own_c_70 "modCount" "I" (.int (1 : Int32)) := Fld.same W396 F393
  refine own_st (fun u_ k_ => st396 u_ k_) ?_
  show own_Go p e below _ (T396.setTop (mkF m 17 #[.val (.ref a), .val (.ref b), .val (.ref r_389), .unset, .unset, .unset] []))
  refine own_st (fun u_ k_ => XS.aloadN X396.here hx rfl (hb hby own_d_jdk_38_41_17) rfl rfl k_) ?_
  have ne398 : r_389 ≠ a := (Ne.symm (Nat.ne_of_lt (Nat.lt_of_lt_of_le E.lt z391)))
  have F399 := (F392.other W396 ne398)
  obtain ⟨cl400, Ar400, -, S400, N400, -, -⟩ := id F399
  refine own_st (X396.arraylength hx (by rw [e396]; exact Ar400.1) (State.isArrayOf_alike hZ.alike Ar400.2.1) (g := (mkF m 18 #[.val (.ref a), .val (.ref b), .val (.ref r_389), .unset, .unset, .unset] [(.ref r_389)])) rfl rfl (hb hby own_d_jdk_38_41_18)) ?_
  rw [len_of S400 N400]
  show own_Go p e below _ (T396.setTop (mkF m 19 #[.val (.ref a), .val (.ref b), .val (.ref r_389), .unset, .unset, .unset] [(.int (0 : Int32))]))
  refine own_st (fun u_ k_ => XS.istoreN X396.here hx rfl (hb hby own_d_jdk_38_41_19) rfl (l' := #[.val (.ref a), .val (.ref b), .val (.ref r_389), .val (.int (0 : Int32)), .unset, .unset]) rfl k_) ?_
  show own_Go p e below _ (T396.setTop (mkF m 20 #[.val (.ref a), .val (.ref b), .val (.ref r_389), .val (.int (0 : Int32)), .unset, .unset] []))
  refine own_st (fun u_ k_ => XS.iloadN X396.here hx rfl (hb hby own_d_jdk_38_41_20) rfl k_) ?_
  refine own_st (fun u_ k_ => XS.ifNo X396.here hx rfl (hb hby own_d_jdk_38_41_21) rfl (XT.i0_ne_f (by decide)) k_) ?_
  show own_Go p e below _ (T396.setTop (mkF m 24 #[.val (.ref a), .val (.ref b), .val (.ref r_389), .val (.int (0 : Int32)), .unset, .unset] []))
  refine own_st (fun u_ k_ => XS.iconst X396.here hx rfl (hb hby own_d_jdk_38_41_24) k_) ?_
  have K401 : Keep h0 T388.heap [a] := (Keep.refl h0 [a]).trans K388 all0
  have K402 : Keep h0 h396 [a] := K401.wr W396 (Or.inl (List.mem_of_getElem? (i := 0) rfl))
  have F403 := (Exa.wr W396 F395)
  exact own_retX X396 hx hlk hret rfl (Or.inl ⟨rfl, by simp, _, rfl⟩) (hb hby own_d_jdk_38_41_25) (by decide) (by decide) (show QrmAA Z w0 w1 w2 w3 wl wle wd mAL mUL mUR mOA wcs kle kd a b h0 n0 (some (.int (0 : Int32))) T396.heap _ from (by rw [e396]; exact ⟨rfl, N396, K402, F403⟩))
theorem own_d_jdk_49_1_0 : decode jdk_49_method_1_code 0 = .ok (.aload_n 0, 1) := by decide +kernel
theorem own_d_jdk_49_1_1 : decode jdk_49_method_1_code 1 = .ok (.aload_n 1, 1) := by decide +kernel
theorem own_d_jdk_49_1_2 : decode jdk_49_method_1_code 2 = .ok (.putfield 1, 3) := by decide +kernel
theorem own_lm_740 : parseFieldDescriptor "Ljava/util/ArrayList;" = some (.object "java/util/ArrayList") := by decide +kernel
abbrev own_c_741 : String := "java/util/ArrayList$Itr"
theorem own_d_jdk_49_1_5 : decode jdk_49_method_1_code 5 = .ok (.aload_n 0, 1) := by decide +kernel
theorem own_d_jdk_49_1_6 : decode jdk_49_method_1_code 6 = .ok (.invokespecial 7, 3) := by decide +kernel
theorem own_d_jdk_49_1_9 : decode jdk_49_method_1_code 9 = .ok (.aload_n 0, 1) := by decide +kernel
theorem own_d_jdk_49_1_10 : decode jdk_49_method_1_code 10 = .ok (.iconst (-1), 1) := by decide +kernel
theorem own_d_jdk_49_1_11 : decode jdk_49_method_1_code 11 = .ok (.putfield 13, 3) := by decide +kernel
theorem own_lm_747 : ("lastRet" : String) ≠ "this$0" := by decide +kernel
def own_sn_748 {Z : State} {a0 : Array Value} (hw : own_H a0 Z) := slot_ne (Or.inl (own_w hw 310 rfl)) (Or.inr (own_w hw 307 rfl)) own_lm_747 (t := .int) (t' := (.object "java/util/ArrayList")) own_lm_69 own_lm_740
theorem own_d_jdk_49_1_14 : decode jdk_49_method_1_code 14 = .ok (.aload_n 0, 1) := by decide +kernel
theorem own_d_jdk_49_1_15 : decode jdk_49_method_1_code 15 = .ok (.aload_n 0, 1) := by decide +kernel
theorem own_d_jdk_49_1_16 : decode jdk_49_method_1_code 16 = .ok (.getfield 1, 3) := by decide +kernel
theorem own_lm_752 : ("this$0" : String) ≠ "lastRet" := by decide +kernel
def own_sn_753 {Z : State} {a0 : Array Value} (hw : own_H a0 Z) := slot_ne (Or.inr (own_w hw 307 rfl)) (Or.inl (own_w hw 310 rfl)) own_lm_752 (t := (.object "java/util/ArrayList")) (t' := .int) own_lm_740 own_lm_69
theorem own_d_jdk_49_1_19 : decode jdk_49_method_1_code 19 = .ok (.getfield 17, 3) := by decide +kernel
theorem own_lm_755 : ("java/util/ArrayList" : String) ≠ "java/util/ArrayList$Itr" := by decide +kernel
theorem own_d_jdk_49_1_22 : decode jdk_49_method_1_code 22 = .ok (.putfield 22, 3) := by decide +kernel
theorem own_lm_757 : ("expectedModCount" : String) ≠ "this$0" := by decide +kernel
def own_sn_758 {Z : State} {a0 : Array Value} (hw : own_H a0 Z) := slot_ne (Or.inl (own_w hw 313 rfl)) (Or.inr (own_w hw 307 rfl)) own_lm_757 (t := .int) (t' := (.object "java/util/ArrayList")) own_lm_69 own_lm_740
theorem own_lm_759 : ("expectedModCount" : String) ≠ "lastRet" := by decide +kernel
def own_sn_760 {Z : State} {a0 : Array Value} (hw : own_H a0 Z) := slot_ne (Or.inl (own_w hw 313 rfl)) (Or.inl (own_w hw 310 rfl)) own_lm_759 (t := .int) (t' := .int) own_lm_69 own_lm_69
theorem own_d_jdk_49_1_25 : decode jdk_49_method_1_code 25 = .ok (.return_, 1) := by decide +kernel
theorem own_lm_762 : ("this$0" : String) ≠ "expectedModCount" := by decide +kernel
def own_sn_763 {Z : State} {a0 : Array Value} (hw : own_H a0 Z) := slot_ne (Or.inr (own_w hw 307 rfl)) (Or.inl (own_w hw 313 rfl)) own_lm_762 (t := (.object "java/util/ArrayList")) (t' := .int) own_lm_740 own_lm_69
theorem own_lm_764 : ("cursor" : String) ≠ "this$0" := by decide +kernel
def own_sn_765 {Z : State} {a0 : Array Value} (hw : own_H a0 Z) := slot_ne (Or.inl (own_w hw 321 rfl)) (Or.inr (own_w hw 307 rfl)) own_lm_764 (t := .int) (t' := (.object "java/util/ArrayList")) own_lm_69 own_lm_740
theorem own_lm_766 : ("cursor" : String) ≠ "lastRet" := by decide +kernel
def own_sn_767 {Z : State} {a0 : Array Value} (hw : own_H a0 Z) := slot_ne (Or.inl (own_w hw 321 rfl)) (Or.inl (own_w hw 310 rfl)) own_lm_766 (t := .int) (t' := .int) own_lm_69 own_lm_69
theorem own_lm_768 : ("cursor" : String) ≠ "expectedModCount" := by decide +kernel
def own_sn_769 {Z : State} {a0 : Array Value} (hw : own_H a0 Z) := slot_ne (Or.inl (own_w hw 321 rfl)) (Or.inl (own_w hw 313 rfl)) own_lm_768 (t := .int) (t' := .int) own_lm_69 own_lm_69
abbrev own_y_770 : MethodName := ⟨"java/util/ArrayList$Itr", "<init>", "(Ljava/util/ArrayList;)V"⟩
theorem own_pn_771 : plainName "java/util/ArrayList$Itr" = true := by first | (simp [plainName, overriddenIn]; done) | decide +kernel
theorem own_ef_rmII (m : MethodId) (a : Addr) (b : Addr)  : entryFrame m #[(.ref a), (.ref b)] 2 = mkF m 0 #[.val (.ref a), .val (.ref b)] [] := by first | (simp [entryFrame, mkF, argsToLocals, Value.category, maxLocals]; done) | rfl
def QrmII (Z : State) (w0 w1 w2 w3 wl wle wd mAL mUL mUR mOA : Addr) (wcs : Int32) (kle kd : ClassId) (a : Addr) (b : Addr) (h0 : Heap) (n0 : Nat) (v : Option Value) (h : Heap) (L : List Loc) : Prop := v = none ∧ Fr n0 L ∧ Keep h0 h [a] ∧ Exa Z h a own_c_741 ∧ Fld Z h a own_c_741 "this$0" "Ljava/util/ArrayList;" (.ref b) ∧ Fld Z h a own_c_741 "cursor" "I" (.int (0 : Int32))
set_option maxRecDepth 65536 in
set_option maxHeartbeats 40000000 in
theorem rmII (l : Launch) (Z : State) (a0 : Array Value) (hw : own_H a0 Z) (ws : List Jvm.Cond) (w0 w1 w2 w3 wl wle wd mAL mUL mUR mOA : Addr) (wcs : Int32) (kle kd : ClassId) (hS : own_S Z w0 w1 w2 w3 wl wle wd mAL mUL mUR mOA wcs kle kd) (a : Addr) (b : Addr) (h0 : Heap) (n0 : Nat) (O0 : Old Z n0 h0) (E : Exa Z h0 a own_c_741) (ga : n0 ≤ a) (F1 : Fld Z h0 a own_c_741 "this$0" "Ljava/util/ArrayList;" .null) (F2 : Fld Z h0 a own_c_741 "cursor" "I" (.int (0 : Int32))) (F3 : Fld Z h0 a own_c_741 "lastRet" "I" (.int (0 : Int32))) (F4 : Fld Z h0 a own_c_741 "expectedModCount" "I" (.int (0 : Int32))) (Eb : Exa Z h0 b "java/util/ArrayList") (G1 : Fld Z h0 b own_c_70 "modCount" "I" (.int (0 : Int32))) :
    own_Met l own_y_770 jdk_49_method_1_code 2 none ws ({ frames := 1, cells := 0, slots := 0, locals := 12 } : Room) Z h0 #[(.ref a), (.ref b)] (QrmII Z w0 w1 w2 w3 wl wle wd mAL mUL mUR mOA wcs kle kd a b h0 n0) := by
  refine own_body (plainFor_of_name own_pn_771) ?_
  intro p e s m below meth c s₁ hx hby hml hown hnm hret hlk hZ e0 X0
  have N0 := Fr.nil n0
  refine own_st (fun u_ k_ => castTop (own_ef_rmII m a b) k_) ?_
  show own_Go p e below _ (s₁.setTop (mkF m 0 #[.val (.ref a), .val (.ref b)] []))
  refine own_st (fun u_ k_ => XS.aloadN X0.here hx rfl (hb hby own_d_jdk_49_1_0) rfl rfl k_) ?_
  refine own_st (fun u_ k_ => XS.aloadN X0.here hx rfl (hb hby own_d_jdk_49_1_1) rfl rfl k_) ?_
  show own_Go p e below _ (s₁.setTop (mkF m 2 #[.val (.ref a), .val (.ref b)] [(.ref b), (.ref a)]))
  obtain ⟨T404, h404, X404, e404, W404, st404⟩ := putF X0 hx hZ hown (host := "") (Or.inl (own_w hw 306 rfl)) Via.refl e0 F1 E (Or.inr ⟨(own_w hw 307 rfl), rfl, hnm⟩) (own_w hw 300 rfl) (ty := (.object "java/util/ArrayList")) own_lm_740 rfl rfl (g := (mkF m 2 #[.val (.ref a), .val (.ref b)] [(.ref b), (.ref a)])) rfl rfl (hb hby own_d_jdk_49_1_2)
  have N404 := Fr.snoc X404 N0 ga
  have F405 : Fld Z h404 a own_c_741 "this$0" "Ljava/util/ArrayList;" (.ref b) := Fld.same W404 F1
  refine own_st (fun u_ k_ => st404 u_ k_) ?_
  show own_Go p e below _ (T404.setTop (mkF m 5 #[.val (.ref a), .val (.ref b)] []))
  refine own_st (fun u_ k_ => XS.aloadN X404.here hx rfl (hb hby own_d_jdk_49_1_5) rfl rfl k_) ?_
  obtain ⟨T406, X406, e406, st406⟩ := initO X404 hx hZ hown (own_w hw 308 rfl) (own_w hw 20 rfl) (own_w hw 21 rfl) e404 (g := (mkF m 6 #[.val (.ref a), .val (.ref b)] [(.ref a)])) rfl (by rw [hml]; rfl) rfl (hb hby own_d_jdk_49_1_6) (by decide) (W := 0) (by show 2 * 0 + _ ≤ _; exact Nat.le_of_eq rfl) (by decide)
  refine own_st (fun u_ k_ => st406 u_ k_) ?_
  show own_Go p e below _ (T406.setTop (mkF m 9 #[.val (.ref a), .val (.ref b)] []))
  refine own_st (fun u_ k_ => XS.aloadN X406.here hx rfl (hb hby own_d_jdk_49_1_9) rfl rfl k_) ?_
  refine own_st (fun u_ k_ => XS.iconst X406.here hx rfl (hb hby own_d_jdk_49_1_10) k_) ?_
  show own_Go p e below _ (T406.setTop (mkF m 11 #[.val (.ref a), .val (.ref b)] [(.int (-1 : Int32)), (.ref a)]))
  have F407 := (Exa.wr W404 E)
  have F408 := (Fld.other W404 F3 (Or.inr (own_sn_748 hw)))
  obtain ⟨T409, h409, X409, e409, W409, st409⟩ := putF X406 hx hZ hown (host := "") (Or.inl (own_w hw 309 rfl)) Via.refl e406 F408 F407 (Or.inl (own_w hw 310 rfl)) (own_w hw 300 rfl) (ty := .int) own_lm_69 rfl rfl (g := (mkF m 11 #[.val (.ref a), .val (.ref b)] [(.int (-1 : Int32)), (.ref a)])) rfl rfl (hb hby own_d_jdk_49_1_11)
  have N409 := Fr.snoc X409 N404 ga
  have F410 : Fld Z h409 a own_c_741 "lastRet" "I" (.int (-1 : Int32)) := Fld.same W409 F408
  refine own_st (fun u_ k_ => st409 u_ k_) ?_
  show own_Go p e below _ (T409.setTop (mkF m 14 #[.val (.ref a), .val (.ref b)] []))
  refine own_st (fun u_ k_ => XS.aloadN X409.here hx rfl (hb hby own_d_jdk_49_1_14) rfl rfl k_) ?_
  refine own_st (fun u_ k_ => XS.aloadN X409.here hx rfl (hb hby own_d_jdk_49_1_15) rfl rfl k_) ?_
  show own_Go p e below _ (T409.setTop (mkF m 16 #[.val (.ref a), .val (.ref b)] [(.ref a), (.ref a)]))
  have F411 := (Fld.other W409 F405 (Or.inr (own_sn_753 hw)))
  obtain ⟨T412, X412, e412, st412⟩ := getF X409 hx hZ hown (host := "") (Or.inl (own_w hw 306 rfl)) Via.refl e409 F411 (g := (mkF m 16 #[.val (.ref a), .val (.ref b)] [(.ref a), (.ref a)])) rfl rfl (hb hby own_d_jdk_49_1_16)
  refine own_st (fun u_ k_ => st412 u_ k_) ?_
  show own_Go p e below _ (T412.setTop (mkF m 19 #[.val (.ref a), .val (.ref b)] [(.ref b), (.ref a)]))
  have ne413 : b ≠ a := (ne_exa Eb E own_lm_755)
  have F414 := (Fld.other W409 (Fld.other W404 G1 (Or.inl ne413)) (Or.inl ne413))
  obtain ⟨T415, X415, e415, st415⟩ := getF X412 hx hZ hown (host := "") (Or.inl (own_w hw 311 rfl)) (Via.of (own_w hw 293 rfl)) e412 F414 (g := (mkF m 19 #[.val (.ref a), .val (.ref b)] [(.ref b), (.ref a)])) rfl rfl (hb hby own_d_jdk_49_1_19)
  refine own_st (fun u_ k_ => st415 u_ k_) ?_
  show own_Go p e below _ (T415.setTop (mkF m 22 #[.val (.ref a), .val (.ref b)] [(.int (0 : Int32)), (.ref a)]))
  have F416 := (Exa.wr W409 F407)
  have F417 := (Fld.other W409 (Fld.other W404 F4 (Or.inr (own_sn_758 hw))) (Or.inr (own_sn_760 hw)))
  obtain ⟨T418, h418, X418, e418, W418, st418⟩ := putF X415 hx hZ hown (host := "") (Or.inl (own_w hw 312 rfl)) Via.refl e415 F417 F416 (Or.inl (own_w hw 313 rfl)) (own_w hw 300 rfl) (ty := .int) own_lm_69 rfl rfl (g := (mkF m 22 #[.val (.ref a), .val (.ref b)] [(.int (0 : Int32)), (.ref a)])) rfl rfl (hb hby own_d_jdk_49_1_22)
  have N418 := Fr.snoc X418 N409 ga
  have F419 : Fld Z h418 a own_c_741 "expectedModCount" "I" (.int (0 : Int32)) := Fld.same W418 F417
  refine own_st (fun u_ k_ => st418 u_ k_) ?_
  show own_Go p e below _ (T418.setTop (mkF m 25 #[.val (.ref a), .val (.ref b)] []))
  have K420 : Keep h0 h404 [a] := (Keep.refl h0 [a]).wr W404 (Or.inl (List.mem_of_getElem? (i := 0) rfl))
  have K421 : Keep h0 h409 [a] := K420.wr W409 (Or.inl (List.mem_of_getElem? (i := 0) rfl))
  have K422 : Keep h0 h418 [a] := K421.wr W418 (Or.inl (List.mem_of_getElem? (i := 0) rfl))
  have F423 := (Exa.wr W418 F416)
  have F424 := (Fld.other W418 F411 (Or.inr (own_sn_763 hw)))
  have F425 := (Fld.other W418 (Fld.other W409 (Fld.other W404 F2 (Or.inr (own_sn_765 hw))) (Or.inr (own_sn_767 hw))) (Or.inr (own_sn_769 hw)))
  exact own_retV X418 hx hlk hret (hb hby own_d_jdk_49_1_25) (by decide) (by decide) (show QrmII Z w0 w1 w2 w3 wl wle wd mAL mUL mUR mOA wcs kle kd a b h0 n0 none T418.heap _ from (by rw [e418]; exact ⟨rfl, N418, K422, F423, F424, F425⟩))
theorem own_d_jdk_38_55_0 : decode jdk_38_method_55_code 0 = .ok (.new 267, 3) := by decide +kernel
theorem own_d_jdk_38_55_3 : decode jdk_38_method_55_code 3 = .ok (.dup, 1) := by decide +kernel
theorem own_d_jdk_38_55_4 : decode jdk_38_method_55_code 4 = .ok (.aload_n 0, 1) := by decide +kernel
theorem own_d_jdk_38_55_5 : decode jdk_38_method_55_code 5 = .ok (.invokespecial 269, 3) := by decide +kernel
theorem own_lm_776 : ("java/util/ArrayList$Itr" : String) ≠ "java/lang/invoke/MethodHandle" ∧ ("java/util/ArrayList$Itr" : String) ≠ "java/lang/invoke/VarHandle" := by decide +kernel
theorem own_pd_777 : parseMethodDescriptor "(Ljava/util/ArrayList;)V" = some ⟨[(.object "java/util/ArrayList")], none⟩ := by decide +kernel
theorem own_d_jdk_38_55_8 : decode jdk_38_method_55_code 8 = .ok (.areturn, 1) := by decide +kernel
abbrev own_y_779 : MethodName := ⟨"java/util/ArrayList", "iterator", "()Ljava/util/Iterator;"⟩
theorem own_ef_rmAI (m : MethodId) (a : Addr)  : entryFrame m #[(.ref a)] 1 = mkF m 0 #[.val (.ref a)] [] := by first | (simp [entryFrame, mkF, argsToLocals, Value.category, maxLocals]; done) | rfl
def QrmAI (Z : State) (w0 w1 w2 w3 wl wle wd mAL mUL mUR mOA : Addr) (wcs : Int32) (kle kd : ClassId) (a : Addr) (h0 : Heap) (n0 : Nat) (v : Option Value) (h : Heap) (L : List Loc) : Prop := ∃ r : Addr, v = some (.ref r) ∧ Fr n0 L ∧ Keep h0 h [] ∧ h0.size ≤ r ∧ Exa Z h r own_c_741 ∧ Fld Z h r own_c_741 "this$0" "Ljava/util/ArrayList;" (.ref a) ∧ Fld Z h r own_c_741 "cursor" "I" (.int (0 : Int32))
set_option maxRecDepth 65536 in
set_option maxHeartbeats 40000000 in
theorem rmAI (l : Launch) (Z : State) (a0 : Array Value) (hw : own_H a0 Z) (ws : List Jvm.Cond) (w0 w1 w2 w3 wl wle wd mAL mUL mUR mOA : Addr) (wcs : Int32) (kle kd : ClassId) (hS : own_S Z w0 w1 w2 w3 wl wle wd mAL mUL mUR mOA wcs kle kd) (a : Addr) (h0 : Heap) (n0 : Nat) (O0 : Old Z n0 h0) (E : Exa Z h0 a "java/util/ArrayList") (G1 : Fld Z h0 a own_c_70 "modCount" "I" (.int (0 : Int32))) :
    own_Met l own_y_779 jdk_38_method_55_code 1 (some (.object "java/util/Iterator")) ws ({ frames := 2, cells := 1, slots := 4, locals := 26 } : Room) Z h0 #[(.ref a)] (QrmAI Z w0 w1 w2 w3 wl wle wd mAL mUL mUR mOA wcs kle kd a h0 n0) := by
  refine own_body (plainFor_of_name own_pn_91) ?_
  intro p e s m below meth c s₁ hx hby hml hown hnm hret hlk hZ e0 X0
  have N0 := Fr.nil n0
  refine own_st (fun u_ k_ => castTop (own_ef_rmAI m a) k_) ?_
  show own_Go p e below _ (s₁.setTop (mkF m 0 #[.val (.ref a)] []))
  obtain ⟨T426, h426, X426, e426, E426, A426, D426, U426, st426⟩ := newO X0 hx hZ hown (own_w hw 299 rfl) (own_w hw 300 rfl) (own_w hw 301 rfl) e0 (g := (mkF m 0 #[.val (.ref a)] [])) rfl (hb hby own_d_jdk_38_55_0) (by decide) (by decide)
  obtain ⟨b426, g426⟩ : ∃ z, z = h0.size := ⟨_, rfl⟩
  rw [← g426] at A426 D426 U426 st426
  have F426_this_0 : Fld Z h426 b426 own_c_741 "this$0" "Ljava/util/ArrayList;" .null := D426 (Or.inr (own_w hw 307 rfl)) (ty := (.object "java/util/ArrayList")) own_lm_740
  have F426_lastRet : Fld Z h426 b426 own_c_741 "lastRet" "I" (.int (0 : Int32)) := D426 (Or.inl (own_w hw 310 rfl)) (ty := .int) own_lm_69
  have F426_expectedModCount : Fld Z h426 b426 own_c_741 "expectedModCount" "I" (.int (0 : Int32)) := D426 (Or.inl (own_w hw 313 rfl)) (ty := .int) own_lm_69
  have F426_cursor : Fld Z h426 b426 own_c_741 "cursor" "I" (.int (0 : Int32)) := D426 (Or.inl (own_w hw 321 rfl)) (ty := .int) own_lm_69
  refine own_st (fun u_ k_ => st426 u_ k_) ?_
  show own_Go p e below _ (T426.setTop (mkF m 3 #[.val (.ref a)] [(.ref b426)]))
  refine own_st (fun u_ k_ => XS.dup X426.here hx rfl (hb hby own_d_jdk_38_55_3) rfl rfl k_) ?_
  refine own_st (fun u_ k_ => XS.aloadN X426.here hx rfl (hb hby own_d_jdk_38_55_4) rfl rfl k_) ?_
  show own_Go p e below _ (T426.setTop (mkF m 5 #[.val (.ref a)] [(.ref a), (.ref b426), (.ref b426)]))
  have g427 : n0 ≤ b426 := Nat.le_trans (own_nl O0) (Nat.le_of_eq g426.symm)
  have F428 := (Exa.ext E426 E)
  have F429 := (Fld.ext E426 G1)
  have O431 : Old Z n0 h426 := O0.ext E426
  obtain ⟨T430, v430, L430, X430, hQ430, st430⟩ := own_callN X426 hx hZ (y := own_y_770) rfl hown (own_w hw 302 rfl) (own_w hw 303 rfl) (own_w hw 301 rfl) (own_w hw 305 rfl) own_lm_776 (rmII l Z a0 hw [] w0 w1 w2 w3 wl wle wd mAL mUL mUR mOA wcs kle kd hS b426 a h426 n0 O431 A426 g427 F426_this_0 F426_cursor F426_lastRet F426_expectedModCount F428 F429) e426 own_pd_777 (a := b426) (argsL := [(.ref a)]) (rest := [(.ref b426)]) rfl rfl (g := (mkF m 5 #[.val (.ref a)] [(.ref a), (.ref b426), (.ref b426)])) rfl (by rw [hml]; rfl) rfl (hb hby own_d_jdk_38_55_5) (W := 1) rfl (by decide) (by decide) (by decide) (by decide)
  obtain ⟨rfl, M430, K430, F432, F433, F434⟩ := hQ430
  have N430 := Fr.app N0 M430
  refine own_st (fun u_ k_ => st430 u_ k_) ?_
  show own_Go p e below _ (T430.setTop (mkF m 8 #[.val (.ref a)] [(.ref b426)]))
  have K435 : Keep h0 h426 [] := (Keep.refl h0 []).ext E426
  have z437 : h0.size ≤ b426 := Nat.le_trans (Nat.le_refl _) (Nat.le_of_eq g426.symm)
  have K436 : Keep h0 T430.heap [] := K435.trans K430 (allS (Or.inr z437) all0)
  exact own_retX X430 hx hlk hret rfl (Or.inr (Or.inr (Or.inr (Or.inr ⟨rfl, rfl, rfl⟩)))) (hb hby own_d_jdk_38_55_8) (by decide) (by decide) (show QrmAI Z w0 w1 w2 w3 wl wle wd mAL mUL mUR mOA wcs kle kd a h0 n0 (some (.ref b426)) T430.heap _ from (by exact ⟨b426, rfl, N430, K436, z437, F432, F433, F434⟩))
theorem own_d_jdk_49_2_0 : decode jdk_49_method_2_code 0 = .ok (.aload_n 0, 1) := by decide +kernel
theorem own_d_jdk_49_2_1 : decode jdk_49_method_2_code 1 = .ok (.getfield 25, 3) := by decide +kernel
theorem own_d_jdk_49_2_4 : decode jdk_49_method_2_code 4 = .ok (.aload_n 0, 1) := by decide +kernel
theorem own_d_jdk_49_2_5 : decode jdk_49_method_2_code 5 = .ok (.getfield 1, 3) := by decide +kernel
theorem own_d_jdk_49_2_8 : decode jdk_49_method_2_code 8 = .ok (.getfield 28, 3) := by decide +kernel
theorem own_d_jdk_49_2_11 : decode jdk_49_method_2_code 11 = .ok (.if_icmp .eq 7, 3) := by decide +kernel
theorem own_d_jdk_49_2_18 : decode jdk_49_method_2_code 18 = .ok (.iconst 0, 1) := by decide +kernel
theorem own_d_jdk_49_2_19 : decode jdk_49_method_2_code 19 = .ok (.ireturn, 1) := by decide +kernel
abbrev own_y_788 : MethodName := ⟨"java/util/ArrayList$Itr", "hasNext", "()Z"⟩
theorem own_ef_rmIH (m : MethodId) (a : Addr)  : entryFrame m #[(.ref a)] 1 = mkF m 0 #[.val (.ref a)] [] := by first | (simp [entryFrame, mkF, argsToLocals, Value.category, maxLocals]; done) | rfl
def QrmIH (Z : State) (w0 w1 w2 w3 wl wle wd mAL mUL mUR mOA : Addr) (wcs : Int32) (kle kd : ClassId) (a : Addr) (b : Addr) (h0 : Heap) (n0 : Nat) (v : Option Value) (h : Heap) (L : List Loc) : Prop := v = some (.int (0 : Int32)) ∧ Fr n0 L ∧ h = h0
set_option maxRecDepth 65536 in
set_option maxHeartbeats 40000000 in
theorem rmIH (l : Launch) (Z : State) (a0 : Array Value) (hw : own_H a0 Z) (ws : List Jvm.Cond) (w0 w1 w2 w3 wl wle wd mAL mUL mUR mOA : Addr) (wcs : Int32) (kle kd : ClassId) (hS : own_S Z w0 w1 w2 w3 wl wle wd mAL mUL mUR mOA wcs kle kd) (a : Addr) (b : Addr) (h0 : Heap) (n0 : Nat) (O0 : Old Z n0 h0) (F1 : Fld Z h0 a own_c_741 "this$0" "Ljava/util/ArrayList;" (.ref b)) (F2 : Fld Z h0 a own_c_741 "cursor" "I" (.int (0 : Int32))) (F3 : Fld Z h0 b "java/util/ArrayList" "size" "I" (.int (0 : Int32))) :
    own_Met l own_y_788 jdk_49_method_2_code 1 (some .boolean) ws ({ frames := 0, cells := 0, slots := 0, locals := 0 } : Room) Z h0 #[(.ref a)] (QrmIH Z w0 w1 w2 w3 wl wle wd mAL mUL mUR mOA wcs kle kd a b h0 n0) := by
  refine own_body (plainFor_of_name own_pn_771) ?_
  intro p e s m below meth c s₁ hx hby hml hown hnm hret hlk hZ e0 X0
  have N0 := Fr.nil n0
  refine own_st (fun u_ k_ => castTop (own_ef_rmIH m a) k_) ?_
  show own_Go p e below _ (s₁.setTop (mkF m 0 #[.val (.ref a)] []))
  refine own_st (fun u_ k_ => XS.aloadN X0.here hx rfl (hb hby own_d_jdk_49_2_0) rfl rfl k_) ?_
  obtain ⟨T438, X438, e438, st438⟩ := getF X0 hx hZ hown (host := "") (Or.inl (own_w hw 320 rfl)) Via.refl e0 F2 (g := (mkF m 1 #[.val (.ref a)] [(.ref a)])) rfl rfl (hb hby own_d_jdk_49_2_1)
  refine own_st (fun u_ k_ => st438 u_ k_) ?_
  show own_Go p e below _ (T438.setTop (mkF m 4 #[.val (.ref a)] [(.int (0 : Int32))]))
  refine own_st (fun u_ k_ => XS.aloadN X438.here hx rfl (hb hby own_d_jdk_49_2_4) rfl rfl k_) ?_
  obtain ⟨T439, X439, e439, st439⟩ := getF X438 hx hZ hown (host := "") (Or.inl (own_w hw 306 rfl)) Via.refl e438 F1 (g := (mkF m 5 #[.val (.ref a)] [(.ref a), (.int (0 : Int32))])) rfl rfl (hb hby own_d_jdk_49_2_5)
  refine own_st (fun u_ k_ => st439 u_ k_) ?_
  show own_Go p e below _ (T439.setTop (mkF m 8 #[.val (.ref a)] [(.ref b), (.int (0 : Int32))]))
  obtain ⟨T440, X440, e440, st440⟩ := getF X439 hx hZ hown (Or.inr (own_w hw 322 rfl)) Via.refl e439 F3 (g := (mkF m 8 #[.val (.ref a)] [(.ref b), (.int (0 : Int32))])) rfl rfl (hb hby own_d_jdk_49_2_8)
  refine own_st (fun u_ k_ => st440 u_ k_) ?_
  show own_Go p e below _ (T440.setTop (mkF m 11 #[.val (.ref a)] [(.int (0 : Int32)), (.int (0 : Int32))]))
  refine own_st (fun u_ k_ => XS.icmpYes X440.here hx rfl (pc0 := 11) (pc' := 18) rfl (hb hby own_d_jdk_49_2_11) rfl (XT.ii_eq_t (by decide)) (by decide) (by decide) k_) ?_
  refine own_st (fun u_ k_ => XS.iconst X440.here hx rfl (hb hby own_d_jdk_49_2_18) k_) ?_
  show own_Go p e below _ (T440.setTop (mkF m 19 #[.val (.ref a)] [(.int (0 : Int32))]))
  exact own_retX X440 hx hlk hret rfl (Or.inl ⟨rfl, by simp, _, rfl⟩) (hb hby own_d_jdk_49_2_19) (by decide) (by decide) (show QrmIH Z w0 w1 w2 w3 wl wle wd mAL mUL mUR mOA wcs kle kd a b h0 n0 (some (.int (0 : Int32))) T440.heap _ from (by rw [e440]; exact ⟨rfl, N0, rfl⟩))
theorem own_d_prog_17_41_0 : decode prog_17_method_41_code 0 = .ok (.new 14, 3) := by decide +kernel
theorem own_d_prog_17_41_3 : decode prog_17_method_41_code 3 = .ok (.dup, 1) := by decide +kernel
theorem own_d_prog_17_41_4 : decode prog_17_method_41_code 4 = .ok (.aload_n 0, 1) := by decide +kernel
theorem own_d_prog_17_41_5 : decode prog_17_method_41_code 5 = .ok (.getfield 49, 3) := by decide +kernel
theorem own_d_prog_17_41_8 : decode prog_17_method_41_code 8 = .ok (.aload_n 1, 1) := by decide +kernel
theorem own_d_prog_17_41_9 : decode prog_17_method_41_code 9 = .ok (.getfield 49, 3) := by decide +kernel
theorem own_d_prog_17_41_12 : decode prog_17_method_41_code 12 = .ok (.invokestatic 342, 3) := by decide +kernel
theorem own_pd_796 : parseMethodDescriptor "(Ljava/lang/Object;Ljava/lang/Object;)Ljava/lang/Object;" = some ⟨[(.object "java/lang/Object"), (.object "java/lang/Object")], some (.object "java/lang/Object")⟩ := by decide +kernel
theorem own_d_prog_17_41_15 : decode prog_17_method_41_code 15 = .ok (.checkcast 113, 3) := by decide +kernel
theorem own_d_prog_17_41_18 : decode prog_17_method_41_code 18 = .ok (.invokespecial 62, 3) := by decide +kernel
theorem own_pd_799 : parseMethodDescriptor "(Ljava/lang/String;)V" = some ⟨[(.object "java/lang/String")], none⟩ := by decide +kernel
theorem own_d_prog_17_41_21 : decode prog_17_method_41_code 21 = .ok (.astore_n 2, 1) := by decide +kernel
theorem own_d_prog_17_41_22 : decode prog_17_method_41_code 22 = .ok (.aload_n 2, 1) := by decide +kernel
theorem own_d_prog_17_41_23 : decode prog_17_method_41_code 23 = .ok (.aload_n 0, 1) := by decide +kernel
theorem own_d_prog_17_41_24 : decode prog_17_method_41_code 24 = .ok (.getfield 73, 3) := by decide +kernel
theorem own_d_prog_17_41_27 : decode prog_17_method_41_code 27 = .ok (.putfield 73, 3) := by decide +kernel
theorem own_d_prog_17_41_30 : decode prog_17_method_41_code 30 = .ok (.aload_n 2, 1) := by decide +kernel
theorem own_d_prog_17_41_31 : decode prog_17_method_41_code 31 = .ok (.aload_n 0, 1) := by decide +kernel
theorem own_d_prog_17_41_32 : decode prog_17_method_41_code 32 = .ok (.getfield 86, 3) := by decide +kernel
theorem own_d_prog_17_41_35 : decode prog_17_method_41_code 35 = .ok (.putfield 86, 3) := by decide +kernel
theorem own_lm_809 : ("abstractDefinition" : String) ≠ "value" := by decide +kernel
def own_sn_810 {Z : State} {a0 : Array Value} (hw : own_H a0 Z) := slot_ne (Or.inl (own_w hw 223 rfl)) (Or.inl (own_w hw 221 rfl)) own_lm_809 (t := .boolean) (t' := (.object "com/example/temanggung/temanggung/beans/factory/DefinedValue")) own_lm_413 own_lm_396
theorem own_d_prog_17_41_38 : decode prog_17_method_41_code 38 = .ok (.aload_n 2, 1) := by decide +kernel
theorem own_d_prog_17_41_39 : decode prog_17_method_41_code 39 = .ok (.aload_n 0, 1) := by decide +kernel
theorem own_d_prog_17_41_40 : decode prog_17_method_41_code 40 = .ok (.getfield 90, 3) := by decide +kernel
theorem own_d_prog_17_41_43 : decode prog_17_method_41_code 43 = .ok (.putfield 90, 3) := by decide +kernel
theorem own_lm_815 : ("primary" : String) ≠ "value" := by decide +kernel
def own_sn_816 {Z : State} {a0 : Array Value} (hw : own_H a0 Z) := slot_ne (Or.inl (own_w hw 225 rfl)) (Or.inl (own_w hw 221 rfl)) own_lm_815 (t := .boolean) (t' := (.object "com/example/temanggung/temanggung/beans/factory/DefinedValue")) own_lm_413 own_lm_396
theorem own_lm_817 : ("primary" : String) ≠ "abstractDefinition" := by decide +kernel
def own_sn_818 {Z : State} {a0 : Array Value} (hw : own_H a0 Z) := slot_ne (Or.inl (own_w hw 225 rfl)) (Or.inl (own_w hw 223 rfl)) own_lm_817 (t := .boolean) (t' := .boolean) own_lm_413 own_lm_413
theorem own_d_prog_17_41_46 : decode prog_17_method_41_code 46 = .ok (.aload_n 2, 1) := by decide +kernel
theorem own_d_prog_17_41_47 : decode prog_17_method_41_code 47 = .ok (.aload_n 0, 1) := by decide +kernel
theorem own_d_prog_17_41_48 : decode prog_17_method_41_code 48 = .ok (.getfield 13, 3) := by decide +kernel
theorem own_d_prog_17_41_51 : decode prog_17_method_41_code 51 = .ok (.putfield 13, 3) := by decide +kernel
theorem own_lm_823 : ("qualifiers" : String) ≠ "value" := by decide +kernel
def own_sn_824 {Z : State} {a0 : Array Value} (hw : own_H a0 Z) := slot_ne (Or.inl (own_w hw 40 rfl)) (Or.inl (own_w hw 221 rfl)) own_lm_823 (t := (.object "java/util/List")) (t' := (.object "com/example/temanggung/temanggung/beans/factory/DefinedValue")) own_lm_104 own_lm_396
theorem own_lm_825 : ("qualifiers" : String) ≠ "abstractDefinition" := by decide +kernel
def own_sn_826 {Z : State} {a0 : Array Value} (hw : own_H a0 Z) := slot_ne (Or.inl (own_w hw 40 rfl)) (Or.inl (own_w hw 223 rfl)) own_lm_825 (t := (.object "java/util/List")) (t' := .boolean) own_lm_104 own_lm_413
theorem own_lm_827 : ("qualifiers" : String) ≠ "primary" := by decide +kernel
def own_sn_828 {Z : State} {a0 : Array Value} (hw : own_H a0 Z) := slot_ne (Or.inl (own_w hw 40 rfl)) (Or.inl (own_w hw 225 rfl)) own_lm_827 (t := (.object "java/util/List")) (t' := .boolean) own_lm_104 own_lm_413
theorem own_d_prog_17_41_54 : decode prog_17_method_41_code 54 = .ok (.aload_n 2, 1) := by decide +kernel
theorem own_d_prog_17_41_55 : decode prog_17_method_41_code 55 = .ok (.aload_n 0, 1) := by decide +kernel
theorem own_d_prog_17_41_56 : decode prog_17_method_41_code 56 = .ok (.getfield 103, 3) := by decide +kernel
theorem own_d_prog_17_41_59 : decode prog_17_method_41_code 59 = .ok (.aload_n 1, 1) := by decide +kernel
theorem own_d_prog_17_41_60 : decode prog_17_method_41_code 60 = .ok (.getfield 103, 3) := by decide +kernel
theorem own_d_prog_17_41_63 : decode prog_17_method_41_code 63 = .ok (.invokestatic 342, 3) := by decide +kernel
theorem own_d_prog_17_41_66 : decode prog_17_method_41_code 66 = .ok (.checkcast 113, 3) := by decide +kernel
theorem own_d_prog_17_41_69 : decode prog_17_method_41_code 69 = .ok (.putfield 103, 3) := by decide +kernel
theorem own_lm_837 : ("scope" : String) ≠ "value" := by decide +kernel
def own_sn_838 {Z : State} {a0 : Array Value} (hw : own_H a0 Z) := slot_ne (Or.inl (own_w hw 227 rfl)) (Or.inl (own_w hw 221 rfl)) own_lm_837 (t := (.object "java/lang/String")) (t' := (.object "com/example/temanggung/temanggung/beans/factory/DefinedValue")) own_lm_319 own_lm_396
theorem own_lm_839 : ("scope" : String) ≠ "abstractDefinition" := by decide +kernel
def own_sn_840 {Z : State} {a0 : Array Value} (hw : own_H a0 Z) := slot_ne (Or.inl (own_w hw 227 rfl)) (Or.inl (own_w hw 223 rfl)) own_lm_839 (t := (.object "java/lang/String")) (t' := .boolean) own_lm_319 own_lm_413
theorem own_lm_841 : ("scope" : String) ≠ "primary" := by decide +kernel
def own_sn_842 {Z : State} {a0 : Array Value} (hw : own_H a0 Z) := slot_ne (Or.inl (own_w hw 227 rfl)) (Or.inl (own_w hw 225 rfl)) own_lm_841 (t := (.object "java/lang/String")) (t' := .boolean) own_lm_319 own_lm_413
theorem own_d_prog_17_41_72 : decode prog_17_method_41_code 72 = .ok (.aload_n 2, 1) := by decide +kernel
theorem own_d_prog_17_41_73 : decode prog_17_method_41_code 73 = .ok (.aload_n 0, 1) := by decide +kernel
theorem own_d_prog_17_41_74 : decode prog_17_method_41_code 74 = .ok (.getfield 126, 3) := by decide +kernel
theorem own_d_prog_17_41_77 : decode prog_17_method_41_code 77 = .ok (.aload_n 1, 1) := by decide +kernel
theorem own_d_prog_17_41_78 : decode prog_17_method_41_code 78 = .ok (.getfield 126, 3) := by decide +kernel
theorem own_d_prog_17_41_81 : decode prog_17_method_41_code 81 = .ok (.invokestatic 342, 3) := by decide +kernel
theorem own_d_prog_17_41_84 : decode prog_17_method_41_code 84 = .ok (.checkcast 121, 3) := by decide +kernel
theorem own_d_prog_17_41_87 : decode prog_17_method_41_code 87 = .ok (.putfield 126, 3) := by decide +kernel
theorem own_lm_851 : ("lazyInit" : String) ≠ "value" := by decide +kernel
def own_sn_852 {Z : State} {a0 : Array Value} (hw : own_H a0 Z) := slot_ne (Or.inl (own_w hw 229 rfl)) (Or.inl (own_w hw 221 rfl)) own_lm_851 (t := (.object "java/lang/Boolean")) (t' := (.object "com/example/temanggung/temanggung/beans/factory/DefinedValue")) own_lm_462 own_lm_396
theorem own_lm_853 : ("lazyInit" : String) ≠ "abstractDefinition" := by decide +kernel
def own_sn_854 {Z : State} {a0 : Array Value} (hw : own_H a0 Z) := slot_ne (Or.inl (own_w hw 229 rfl)) (Or.inl (own_w hw 223 rfl)) own_lm_853 (t := (.object "java/lang/Boolean")) (t' := .boolean) own_lm_462 own_lm_413
theorem own_lm_855 : ("lazyInit" : String) ≠ "primary" := by decide +kernel
def own_sn_856 {Z : State} {a0 : Array Value} (hw : own_H a0 Z) := slot_ne (Or.inl (own_w hw 229 rfl)) (Or.inl (own_w hw 225 rfl)) own_lm_855 (t := (.object "java/lang/Boolean")) (t' := .boolean) own_lm_462 own_lm_413
theorem own_lm_857 : ("lazyInit" : String) ≠ "scope" := by decide +kernel
def own_sn_858 {Z : State} {a0 : Array Value} (hw : own_H a0 Z) := slot_ne (Or.inl (own_w hw 229 rfl)) (Or.inl (own_w hw 227 rfl)) own_lm_857 (t := (.object "java/lang/Boolean")) (t' := (.object "java/lang/String")) own_lm_462 own_lm_319
theorem own_d_prog_17_41_90 : decode prog_17_method_41_code 90 = .ok (.aload_n 2, 1) := by decide +kernel
theorem own_d_prog_17_41_91 : decode prog_17_method_41_code 91 = .ok (.aload_n 0, 1) := by decide +kernel
theorem own_d_prog_17_41_92 : decode prog_17_method_41_code 92 = .ok (.getfield 134, 3) := by decide +kernel
theorem own_d_prog_17_41_95 : decode prog_17_method_41_code 95 = .ok (.aload_n 1, 1) := by decide +kernel
theorem own_d_prog_17_41_96 : decode prog_17_method_41_code 96 = .ok (.getfield 134, 3) := by decide +kernel
theorem own_d_prog_17_41_99 : decode prog_17_method_41_code 99 = .ok (.invokestatic 342, 3) := by decide +kernel
theorem own_d_prog_17_41_102 : decode prog_17_method_41_code 102 = .ok (.checkcast 139, 3) := by decide +kernel
theorem own_d_prog_17_41_105 : decode prog_17_method_41_code 105 = .ok (.putfield 134, 3) := by decide +kernel
theorem own_lm_867 : ("autowire" : String) ≠ "value" := by decide +kernel
def own_sn_868 {Z : State} {a0 : Array Value} (hw : own_H a0 Z) := slot_ne (Or.inl (own_w hw 148 rfl)) (Or.inl (own_w hw 221 rfl)) own_lm_867 (t := (.object "com/example/temanggung/temanggung/beans/factory/Autowire")) (t' := (.object "com/example/temanggung/temanggung/beans/factory/DefinedValue")) own_lm_379 own_lm_396
theorem own_lm_869 : ("autowire" : String) ≠ "abstractDefinition" := by decide +kernel
def own_sn_870 {Z : State} {a0 : Array Value} (hw : own_H a0 Z) := slot_ne (Or.inl (own_w hw 148 rfl)) (Or.inl (own_w hw 223 rfl)) own_lm_869 (t := (.object "com/example/temanggung/temanggung/beans/factory/Autowire")) (t' := .boolean) own_lm_379 own_lm_413
theorem own_lm_871 : ("autowire" : String) ≠ "primary" := by decide +kernel
def own_sn_872 {Z : State} {a0 : Array Value} (hw : own_H a0 Z) := slot_ne (Or.inl (own_w hw 148 rfl)) (Or.inl (own_w hw 225 rfl)) own_lm_871 (t := (.object "com/example/temanggung/temanggung/beans/factory/Autowire")) (t' := .boolean) own_lm_379 own_lm_413
theorem own_lm_873 : ("autowire" : String) ≠ "scope" := by decide +kernel
def own_sn_874 {Z : State} {a0 : Array Value} (hw : own_H a0 Z) := slot_ne (Or.inl (own_w hw 148 rfl)) (Or.inl (own_w hw 227 rfl)) own_lm_873 (t := (.object "com/example/temanggung/temanggung/beans/factory/Autowire")) (t' := (.object "java/lang/String")) own_lm_379 own_lm_319
theorem own_lm_875 : ("autowire" : String) ≠ "lazyInit" := by decide +kernel
def own_sn_876 {Z : State} {a0 : Array Value} (hw : own_H a0 Z) := slot_ne (Or.inl (own_w hw 148 rfl)) (Or.inl (own_w hw 229 rfl)) own_lm_875 (t := (.object "com/example/temanggung/temanggung/beans/factory/Autowire")) (t' := (.object "java/lang/Boolean")) own_lm_379 own_lm_462
theorem own_d_prog_17_41_108 : decode prog_17_method_41_code 108 = .ok (.aload_n 2, 1) := by decide +kernel
theorem own_d_prog_17_41_109 : decode prog_17_method_41_code 109 = .ok (.aload_n 0, 1) := by decide +kernel
theorem own_d_prog_17_41_110 : decode prog_17_method_41_code 110 = .ok (.getfield 97, 3) := by decide +kernel
theorem own_d_prog_17_41_113 : decode prog_17_method_41_code 113 = .ok (.aload_n 1, 1) := by decide +kernel
theorem own_d_prog_17_41_114 : decode prog_17_method_41_code 114 = .ok (.getfield 97, 3) := by decide +kernel
theorem own_d_prog_17_41_117 : decode prog_17_method_41_code 117 = .ok (.invokestatic 342, 3) := by decide +kernel
theorem own_d_prog_17_41_120 : decode prog_17_method_41_code 120 = .ok (.checkcast 113, 3) := by decide +kernel
theorem own_d_prog_17_41_123 : decode prog_17_method_41_code 123 = .ok (.putfield 97, 3) := by decide +kernel
theorem own_lm_885 : ("factoryBeanName" : String) ≠ "value" := by decide +kernel
def own_sn_886 {Z : State} {a0 : Array Value} (hw : own_H a0 Z) := slot_ne (Or.inl (own_w hw 233 rfl)) (Or.inl (own_w hw 221 rfl)) own_lm_885 (t := (.object "java/lang/String")) (t' := (.object "com/example/temanggung/temanggung/beans/factory/DefinedValue")) own_lm_319 own_lm_396
theorem own_lm_887 : ("factoryBeanName" : String) ≠ "abstractDefinition" := by decide +kernel
def own_sn_888 {Z : State} {a0 : Array Value} (hw : own_H a0 Z) := slot_ne (Or.inl (own_w hw 233 rfl)) (Or.inl (own_w hw 223 rfl)) own_lm_887 (t := (.object "java/lang/String")) (t' := .boolean) own_lm_319 own_lm_413
theorem own_lm_889 : ("factoryBeanName" : String) ≠ "primary" := by decide +kernel
def own_sn_890 {Z : State} {a0 : Array Value} (hw : own_H a0 Z) := slot_ne (Or.inl (own_w hw 233 rfl)) (Or.inl (own_w hw 225 rfl)) own_lm_889 (t := (.object "java/lang/String")) (t' := .boolean) own_lm_319 own_lm_413
theorem own_lm_891 : ("factoryBeanName" : String) ≠ "scope" := by decide +kernel
def own_sn_892 {Z : State} {a0 : Array Value} (hw : own_H a0 Z) := slot_ne (Or.inl (own_w hw 233 rfl)) (Or.inl (own_w hw 227 rfl)) own_lm_891 (t := (.object "java/lang/String")) (t' := (.object "java/lang/String")) own_lm_319 own_lm_319
theorem own_lm_893 : ("factoryBeanName" : String) ≠ "lazyInit" := by decide +kernel
def own_sn_894 {Z : State} {a0 : Array Value} (hw : own_H a0 Z) := slot_ne (Or.inl (own_w hw 233 rfl)) (Or.inl (own_w hw 229 rfl)) own_lm_893 (t := (.object "java/lang/String")) (t' := (.object "java/lang/Boolean")) own_lm_319 own_lm_462
theorem own_d_prog_17_41_126 : decode prog_17_method_41_code 126 = .ok (.aload_n 2, 1) := by decide +kernel
theorem own_d_prog_17_41_127 : decode prog_17_method_41_code 127 = .ok (.aload_n 0, 1) := by decide +kernel
theorem own_d_prog_17_41_128 : decode prog_17_method_41_code 128 = .ok (.getfield 100, 3) := by decide +kernel
theorem own_d_prog_17_41_131 : decode prog_17_method_41_code 131 = .ok (.aload_n 1, 1) := by decide +kernel
theorem own_d_prog_17_41_132 : decode prog_17_method_41_code 132 = .ok (.getfield 100, 3) := by decide +kernel
theorem own_d_prog_17_41_135 : decode prog_17_method_41_code 135 = .ok (.invokestatic 342, 3) := by decide +kernel
theorem own_d_prog_17_41_138 : decode prog_17_method_41_code 138 = .ok (.checkcast 113, 3) := by decide +kernel
theorem own_d_prog_17_41_141 : decode prog_17_method_41_code 141 = .ok (.putfield 100, 3) := by decide +kernel
theorem own_lm_903 : ("factoryMethodName" : String) ≠ "value" := by decide +kernel
def own_sn_904 {Z : State} {a0 : Array Value} (hw : own_H a0 Z) := slot_ne (Or.inl (own_w hw 235 rfl)) (Or.inl (own_w hw 221 rfl)) own_lm_903 (t := (.object "java/lang/String")) (t' := (.object "com/example/temanggung/temanggung/beans/factory/DefinedValue")) own_lm_319 own_lm_396
theorem own_lm_905 : ("factoryMethodName" : String) ≠ "abstractDefinition" := by decide +kernel
def own_sn_906 {Z : State} {a0 : Array Value} (hw : own_H a0 Z) := slot_ne (Or.inl (own_w hw 235 rfl)) (Or.inl (own_w hw 223 rfl)) own_lm_905 (t := (.object "java/lang/String")) (t' := .boolean) own_lm_319 own_lm_413
theorem own_lm_907 : ("factoryMethodName" : String) ≠ "primary" := by decide +kernel
def own_sn_908 {Z : State} {a0 : Array Value} (hw : own_H a0 Z) := slot_ne (Or.inl (own_w hw 235 rfl)) (Or.inl (own_w hw 225 rfl)) own_lm_907 (t := (.object "java/lang/String")) (t' := .boolean) own_lm_319 own_lm_413
theorem own_lm_909 : ("factoryMethodName" : String) ≠ "scope" := by decide +kernel
def own_sn_910 {Z : State} {a0 : Array Value} (hw : own_H a0 Z) := slot_ne (Or.inl (own_w hw 235 rfl)) (Or.inl (own_w hw 227 rfl)) own_lm_909 (t := (.object "java/lang/String")) (t' := (.object "java/lang/String")) own_lm_319 own_lm_319
theorem own_lm_911 : ("factoryMethodName" : String) ≠ "lazyInit" := by decide +kernel
def own_sn_912 {Z : State} {a0 : Array Value} (hw : own_H a0 Z) := slot_ne (Or.inl (own_w hw 235 rfl)) (Or.inl (own_w hw 229 rfl)) own_lm_911 (t := (.object "java/lang/String")) (t' := (.object "java/lang/Boolean")) own_lm_319 own_lm_462
theorem own_lm_913 : ("factoryMethodName" : String) ≠ "factoryBeanName" := by decide +kernel
def own_sn_914 {Z : State} {a0 : Array Value} (hw : own_H a0 Z) := slot_ne (Or.inl (own_w hw 235 rfl)) (Or.inl (own_w hw 233 rfl)) own_lm_913 (t := (.object "java/lang/String")) (t' := (.object "java/lang/String")) own_lm_319 own_lm_319
theorem own_d_prog_17_41_144 : decode prog_17_method_41_code 144 = .ok (.aload_n 2, 1) := by decide +kernel
theorem own_d_prog_17_41_145 : decode prog_17_method_41_code 145 = .ok (.aload_n 0, 1) := by decide +kernel
theorem own_d_prog_17_41_146 : decode prog_17_method_41_code 146 = .ok (.getfield 19, 3) := by decide +kernel
theorem own_d_prog_17_41_149 : decode prog_17_method_41_code 149 = .ok (.invokeinterface 346 1, 5) := by decide +kernel
abbrev own_y_919 : MethodName := ⟨"java/util/List", "isEmpty", "()Z"⟩
theorem own_d_prog_17_41_154 : decode prog_17_method_41_code 154 = .ok (.ifCond .eq 10, 3) := by decide +kernel
theorem own_d_prog_17_41_157 : decode prog_17_method_41_code 157 = .ok (.aload_n 1, 1) := by decide +kernel
theorem own_d_prog_17_41_158 : decode prog_17_method_41_code 158 = .ok (.getfield 19, 3) := by decide +kernel
theorem own_d_prog_17_41_161 : decode prog_17_method_41_code 161 = .ok (.goto 7, 3) := by decide +kernel
theorem own_d_prog_17_41_168 : decode prog_17_method_41_code 168 = .ok (.putfield 19, 3) := by decide +kernel
theorem own_lm_925 : ("dependsOn" : String) ≠ "value" := by decide +kernel
def own_sn_926 {Z : State} {a0 : Array Value} (hw : own_H a0 Z) := slot_ne (Or.inl (own_w hw 42 rfl)) (Or.inl (own_w hw 221 rfl)) own_lm_925 (t := (.object "java/util/List")) (t' := (.object "com/example/temanggung/temanggung/beans/factory/DefinedValue")) own_lm_104 own_lm_396
theorem own_lm_927 : ("dependsOn" : String) ≠ "abstractDefinition" := by decide +kernel
def own_sn_928 {Z : State} {a0 : Array Value} (hw : own_H a0 Z) := slot_ne (Or.inl (own_w hw 42 rfl)) (Or.inl (own_w hw 223 rfl)) own_lm_927 (t := (.object "java/util/List")) (t' := .boolean) own_lm_104 own_lm_413
theorem own_lm_929 : ("dependsOn" : String) ≠ "primary" := by decide +kernel
def own_sn_930 {Z : State} {a0 : Array Value} (hw : own_H a0 Z) := slot_ne (Or.inl (own_w hw 42 rfl)) (Or.inl (own_w hw 225 rfl)) own_lm_929 (t := (.object "java/util/List")) (t' := .boolean) own_lm_104 own_lm_413
theorem own_lm_931 : ("dependsOn" : String) ≠ "scope" := by decide +kernel
def own_sn_932 {Z : State} {a0 : Array Value} (hw : own_H a0 Z) := slot_ne (Or.inl (own_w hw 42 rfl)) (Or.inl (own_w hw 227 rfl)) own_lm_931 (t := (.object "java/util/List")) (t' := (.object "java/lang/String")) own_lm_104 own_lm_319
theorem own_lm_933 : ("dependsOn" : String) ≠ "lazyInit" := by decide +kernel
def own_sn_934 {Z : State} {a0 : Array Value} (hw : own_H a0 Z) := slot_ne (Or.inl (own_w hw 42 rfl)) (Or.inl (own_w hw 229 rfl)) own_lm_933 (t := (.object "java/util/List")) (t' := (.object "java/lang/Boolean")) own_lm_104 own_lm_462
theorem own_lm_935 : ("dependsOn" : String) ≠ "factoryBeanName" := by decide +kernel
def own_sn_936 {Z : State} {a0 : Array Value} (hw : own_H a0 Z) := slot_ne (Or.inl (own_w hw 42 rfl)) (Or.inl (own_w hw 233 rfl)) own_lm_935 (t := (.object "java/util/List")) (t' := (.object "java/lang/String")) own_lm_104 own_lm_319
theorem own_lm_937 : ("dependsOn" : String) ≠ "factoryMethodName" := by decide +kernel
def own_sn_938 {Z : State} {a0 : Array Value} (hw : own_H a0 Z) := slot_ne (Or.inl (own_w hw 42 rfl)) (Or.inl (own_w hw 235 rfl)) own_lm_937 (t := (.object "java/util/List")) (t' := (.object "java/lang/String")) own_lm_104 own_lm_319
theorem own_d_prog_17_41_171 : decode prog_17_method_41_code 171 = .ok (.aload_n 2, 1) := by decide +kernel
theorem own_d_prog_17_41_172 : decode prog_17_method_41_code 172 = .ok (.getfield 25, 3) := by decide +kernel
theorem own_lm_941 : ("constructorArguments" : String) ≠ "value" := by decide +kernel
def own_sn_942 {Z : State} {a0 : Array Value} (hw : own_H a0 Z) := slot_ne (Or.inr (own_w hw 68 rfl)) (Or.inl (own_w hw 221 rfl)) own_lm_941 (t := (.object "java/util/List")) (t' := (.object "com/example/temanggung/temanggung/beans/factory/DefinedValue")) own_lm_104 own_lm_396
theorem own_lm_943 : ("constructorArguments" : String) ≠ "abstractDefinition" := by decide +kernel
def own_sn_944 {Z : State} {a0 : Array Value} (hw : own_H a0 Z) := slot_ne (Or.inr (own_w hw 68 rfl)) (Or.inl (own_w hw 223 rfl)) own_lm_943 (t := (.object "java/util/List")) (t' := .boolean) own_lm_104 own_lm_413
theorem own_lm_945 : ("constructorArguments" : String) ≠ "primary" := by decide +kernel
def own_sn_946 {Z : State} {a0 : Array Value} (hw : own_H a0 Z) := slot_ne (Or.inr (own_w hw 68 rfl)) (Or.inl (own_w hw 225 rfl)) own_lm_945 (t := (.object "java/util/List")) (t' := .boolean) own_lm_104 own_lm_413
theorem own_lm_947 : ("constructorArguments" : String) ≠ "scope" := by decide +kernel
def own_sn_948 {Z : State} {a0 : Array Value} (hw : own_H a0 Z) := slot_ne (Or.inr (own_w hw 68 rfl)) (Or.inl (own_w hw 227 rfl)) own_lm_947 (t := (.object "java/util/List")) (t' := (.object "java/lang/String")) own_lm_104 own_lm_319
theorem own_lm_949 : ("constructorArguments" : String) ≠ "lazyInit" := by decide +kernel
def own_sn_950 {Z : State} {a0 : Array Value} (hw : own_H a0 Z) := slot_ne (Or.inr (own_w hw 68 rfl)) (Or.inl (own_w hw 229 rfl)) own_lm_949 (t := (.object "java/util/List")) (t' := (.object "java/lang/Boolean")) own_lm_104 own_lm_462
theorem own_lm_951 : ("constructorArguments" : String) ≠ "factoryBeanName" := by decide +kernel
def own_sn_952 {Z : State} {a0 : Array Value} (hw : own_H a0 Z) := slot_ne (Or.inr (own_w hw 68 rfl)) (Or.inl (own_w hw 233 rfl)) own_lm_951 (t := (.object "java/util/List")) (t' := (.object "java/lang/String")) own_lm_104 own_lm_319
theorem own_lm_953 : ("constructorArguments" : String) ≠ "factoryMethodName" := by decide +kernel
def own_sn_954 {Z : State} {a0 : Array Value} (hw : own_H a0 Z) := slot_ne (Or.inr (own_w hw 68 rfl)) (Or.inl (own_w hw 235 rfl)) own_lm_953 (t := (.object "java/util/List")) (t' := (.object "java/lang/String")) own_lm_104 own_lm_319
theorem own_d_prog_17_41_175 : decode prog_17_method_41_code 175 = .ok (.aload_n 0, 1) := by decide +kernel
theorem own_d_prog_17_41_176 : decode prog_17_method_41_code 176 = .ok (.getfield 25, 3) := by decide +kernel
theorem own_d_prog_17_41_179 : decode prog_17_method_41_code 179 = .ok (.invokeinterface 346 1, 5) := by decide +kernel
theorem own_d_prog_17_41_184 : decode prog_17_method_41_code 184 = .ok (.ifCond .eq 10, 3) := by decide +kernel
theorem own_d_prog_17_41_187 : decode prog_17_method_41_code 187 = .ok (.aload_n 1, 1) := by decide +kernel
theorem own_d_prog_17_41_188 : decode prog_17_method_41_code 188 = .ok (.getfield 25, 3) := by decide +kernel
theorem own_d_prog_17_41_191 : decode prog_17_method_41_code 191 = .ok (.goto 7, 3) := by decide +kernel
theorem own_d_prog_17_41_198 : decode prog_17_method_41_code 198 = .ok (.invokeinterface 349 2, 5) := by decide +kernel
abbrev own_y_963 : MethodName := ⟨"java/util/List", "addAll", "(Ljava/util/Collection;)Z"⟩
theorem own_pd_964 : parseMethodDescriptor "(Ljava/util/Collection;)Z" = some ⟨[(.object "java/util/Collection")], some .boolean⟩ := by decide +kernel
theorem own_d_prog_17_41_203 : decode prog_17_method_41_code 203 = .ok (.pop, 1) := by decide +kernel
theorem own_d_prog_17_41_204 : decode prog_17_method_41_code 204 = .ok (.aload_n 2, 1) := by decide +kernel
theorem own_d_prog_17_41_205 : decode prog_17_method_41_code 205 = .ok (.getfield 37, 3) := by decide +kernel
theorem own_lm_968 : ("propertyValues" : String) ≠ "value" := by decide +kernel
def own_sn_969 {Z : State} {a0 : Array Value} (hw : own_H a0 Z) := slot_ne (Or.inr (own_w hw 115 rfl)) (Or.inl (own_w hw 221 rfl)) own_lm_968 (t := (.object "java/util/List")) (t' := (.object "com/example/temanggung/temanggung/beans/factory/DefinedValue")) own_lm_104 own_lm_396
theorem own_lm_970 : ("propertyValues" : String) ≠ "abstractDefinition" := by decide +kernel
def own_sn_971 {Z : State} {a0 : Array Value} (hw : own_H a0 Z) := slot_ne (Or.inr (own_w hw 115 rfl)) (Or.inl (own_w hw 223 rfl)) own_lm_970 (t := (.object "java/util/List")) (t' := .boolean) own_lm_104 own_lm_413
theorem own_lm_972 : ("propertyValues" : String) ≠ "primary" := by decide +kernel
def own_sn_973 {Z : State} {a0 : Array Value} (hw : own_H a0 Z) := slot_ne (Or.inr (own_w hw 115 rfl)) (Or.inl (own_w hw 225 rfl)) own_lm_972 (t := (.object "java/util/List")) (t' := .boolean) own_lm_104 own_lm_413
theorem own_lm_974 : ("propertyValues" : String) ≠ "scope" := by decide +kernel
def own_sn_975 {Z : State} {a0 : Array Value} (hw : own_H a0 Z) := slot_ne (Or.inr (own_w hw 115 rfl)) (Or.inl (own_w hw 227 rfl)) own_lm_974 (t := (.object "java/util/List")) (t' := (.object "java/lang/String")) own_lm_104 own_lm_319
theorem own_lm_976 : ("propertyValues" : String) ≠ "lazyInit" := by decide +kernel
def own_sn_977 {Z : State} {a0 : Array Value} (hw : own_H a0 Z) := slot_ne (Or.inr (own_w hw 115 rfl)) (Or.inl (own_w hw 229 rfl)) own_lm_976 (t := (.object "java/util/List")) (t' := (.object "java/lang/Boolean")) own_lm_104 own_lm_462
theorem own_lm_978 : ("propertyValues" : String) ≠ "factoryBeanName" := by decide +kernel
def own_sn_979 {Z : State} {a0 : Array Value} (hw : own_H a0 Z) := slot_ne (Or.inr (own_w hw 115 rfl)) (Or.inl (own_w hw 233 rfl)) own_lm_978 (t := (.object "java/util/List")) (t' := (.object "java/lang/String")) own_lm_104 own_lm_319
theorem own_lm_980 : ("propertyValues" : String) ≠ "factoryMethodName" := by decide +kernel
def own_sn_981 {Z : State} {a0 : Array Value} (hw : own_H a0 Z) := slot_ne (Or.inr (own_w hw 115 rfl)) (Or.inl (own_w hw 235 rfl)) own_lm_980 (t := (.object "java/util/List")) (t' := (.object "java/lang/String")) own_lm_104 own_lm_319
theorem own_d_prog_17_41_208 : decode prog_17_method_41_code 208 = .ok (.aload_n 1, 1) := by decide +kernel
theorem own_d_prog_17_41_209 : decode prog_17_method_41_code 209 = .ok (.getfield 37, 3) := by decide +kernel
theorem own_d_prog_17_41_212 : decode prog_17_method_41_code 212 = .ok (.invokeinterface 349 2, 5) := by decide +kernel
theorem own_d_prog_17_41_217 : decode prog_17_method_41_code 217 = .ok (.pop, 1) := by decide +kernel
theorem own_d_prog_17_41_218 : decode prog_17_method_41_code 218 = .ok (.aload_n 0, 1) := by decide +kernel
theorem own_d_prog_17_41_219 : decode prog_17_method_41_code 219 = .ok (.getfield 37, 3) := by decide +kernel
theorem own_d_prog_17_41_222 : decode prog_17_method_41_code 222 = .ok (.invokeinterface 235 1, 5) := by decide +kernel
theorem own_d_prog_17_41_227 : decode prog_17_method_41_code 227 = .ok (.astore_n 3, 1) := by decide +kernel
theorem own_d_prog_17_41_228 : decode prog_17_method_41_code 228 = .ok (.aload_n 3, 1) := by decide +kernel
theorem own_d_prog_17_41_229 : decode prog_17_method_41_code 229 = .ok (.invokeinterface 239 1, 5) := by decide +kernel
theorem own_d_prog_17_41_234 : decode prog_17_method_41_code 234 = .ok (.ifCond .eq 60, 3) := by decide +kernel
theorem own_d_prog_17_41_294 : decode prog_17_method_41_code 294 = .ok (.aload_n 2, 1) := by decide +kernel
theorem own_d_prog_17_41_295 : decode prog_17_method_41_code 295 = .ok (.aload_n 0, 1) := by decide +kernel
theorem own_d_prog_17_41_296 : decode prog_17_method_41_code 296 = .ok (.getfield 333, 3) := by decide +kernel
theorem own_d_prog_17_41_299 : decode prog_17_method_41_code 299 = .ok (.aload_n 1, 1) := by decide +kernel
theorem own_d_prog_17_41_300 : decode prog_17_method_41_code 300 = .ok (.getfield 333, 3) := by decide +kernel
theorem own_d_prog_17_41_303 : decode prog_17_method_41_code 303 = .ok (.invokestatic 342, 3) := by decide +kernel
theorem own_d_prog_17_41_306 : decode prog_17_method_41_code 306 = .ok (.checkcast 113, 3) := by decide +kernel
theorem own_d_prog_17_41_309 : decode prog_17_method_41_code 309 = .ok (.putfield 333, 3) := by decide +kernel
theorem own_lm_1001 : ("initMethodName" : String) ≠ "value" := by decide +kernel
def own_sn_1002 {Z : State} {a0 : Array Value} (hw : own_H a0 Z) := slot_ne (Or.inl (own_w hw 324 rfl)) (Or.inl (own_w hw 221 rfl)) own_lm_1001 (t := (.object "java/lang/String")) (t' := (.object "com/example/temanggung/temanggung/beans/factory/DefinedValue")) own_lm_319 own_lm_396
theorem own_lm_1003 : ("initMethodName" : String) ≠ "abstractDefinition" := by decide +kernel
def own_sn_1004 {Z : State} {a0 : Array Value} (hw : own_H a0 Z) := slot_ne (Or.inl (own_w hw 324 rfl)) (Or.inl (own_w hw 223 rfl)) own_lm_1003 (t := (.object "java/lang/String")) (t' := .boolean) own_lm_319 own_lm_413
theorem own_lm_1005 : ("initMethodName" : String) ≠ "primary" := by decide +kernel
def own_sn_1006 {Z : State} {a0 : Array Value} (hw : own_H a0 Z) := slot_ne (Or.inl (own_w hw 324 rfl)) (Or.inl (own_w hw 225 rfl)) own_lm_1005 (t := (.object "java/lang/String")) (t' := .boolean) own_lm_319 own_lm_413
theorem own_lm_1007 : ("initMethodName" : String) ≠ "scope" := by decide +kernel
def own_sn_1008 {Z : State} {a0 : Array Value} (hw : own_H a0 Z) := slot_ne (Or.inl (own_w hw 324 rfl)) (Or.inl (own_w hw 227 rfl)) own_lm_1007 (t := (.object "java/lang/String")) (t' := (.object "java/lang/String")) own_lm_319 own_lm_319
theorem own_lm_1009 : ("initMethodName" : String) ≠ "lazyInit" := by decide +kernel
def own_sn_1010 {Z : State} {a0 : Array Value} (hw : own_H a0 Z) := slot_ne (Or.inl (own_w hw 324 rfl)) (Or.inl (own_w hw 229 rfl)) own_lm_1009 (t := (.object "java/lang/String")) (t' := (.object "java/lang/Boolean")) own_lm_319 own_lm_462
theorem own_lm_1011 : ("initMethodName" : String) ≠ "factoryBeanName" := by decide +kernel
def own_sn_1012 {Z : State} {a0 : Array Value} (hw : own_H a0 Z) := slot_ne (Or.inl (own_w hw 324 rfl)) (Or.inl (own_w hw 233 rfl)) own_lm_1011 (t := (.object "java/lang/String")) (t' := (.object "java/lang/String")) own_lm_319 own_lm_319
theorem own_lm_1013 : ("initMethodName" : String) ≠ "factoryMethodName" := by decide +kernel
def own_sn_1014 {Z : State} {a0 : Array Value} (hw : own_H a0 Z) := slot_ne (Or.inl (own_w hw 324 rfl)) (Or.inl (own_w hw 235 rfl)) own_lm_1013 (t := (.object "java/lang/String")) (t' := (.object "java/lang/String")) own_lm_319 own_lm_319
theorem own_d_prog_17_41_312 : decode prog_17_method_41_code 312 = .ok (.aload_n 2, 1) := by decide +kernel
theorem own_d_prog_17_41_313 : decode prog_17_method_41_code 313 = .ok (.aload_n 0, 1) := by decide +kernel
theorem own_d_prog_17_41_314 : decode prog_17_method_41_code 314 = .ok (.getfield 336, 3) := by decide +kernel
theorem own_d_prog_17_41_317 : decode prog_17_method_41_code 317 = .ok (.aload_n 1, 1) := by decide +kernel
theorem own_d_prog_17_41_318 : decode prog_17_method_41_code 318 = .ok (.getfield 336, 3) := by decide +kernel
theorem own_d_prog_17_41_321 : decode prog_17_method_41_code 321 = .ok (.invokestatic 342, 3) := by decide +kernel
theorem own_d_prog_17_41_324 : decode prog_17_method_41_code 324 = .ok (.checkcast 113, 3) := by decide +kernel
theorem own_d_prog_17_41_327 : decode prog_17_method_41_code 327 = .ok (.putfield 336, 3) := by decide +kernel
theorem own_lm_1023 : ("destroyMethodName" : String) ≠ "value" := by decide +kernel
def own_sn_1024 {Z : State} {a0 : Array Value} (hw : own_H a0 Z) := slot_ne (Or.inl (own_w hw 326 rfl)) (Or.inl (own_w hw 221 rfl)) own_lm_1023 (t := (.object "java/lang/String")) (t' := (.object "com/example/temanggung/temanggung/beans/factory/DefinedValue")) own_lm_319 own_lm_396
theorem own_lm_1025 : ("destroyMethodName" : String) ≠ "abstractDefinition" := by decide +kernel
def own_sn_1026 {Z : State} {a0 : Array Value} (hw : own_H a0 Z) := slot_ne (Or.inl (own_w hw 326 rfl)) (Or.inl (own_w hw 223 rfl)) own_lm_1025 (t := (.object "java/lang/String")) (t' := .boolean) own_lm_319 own_lm_413
theorem own_lm_1027 : ("destroyMethodName" : String) ≠ "primary" := by decide +kernel
def own_sn_1028 {Z : State} {a0 : Array Value} (hw : own_H a0 Z) := slot_ne (Or.inl (own_w hw 326 rfl)) (Or.inl (own_w hw 225 rfl)) own_lm_1027 (t := (.object "java/lang/String")) (t' := .boolean) own_lm_319 own_lm_413
theorem own_lm_1029 : ("destroyMethodName" : String) ≠ "scope" := by decide +kernel
def own_sn_1030 {Z : State} {a0 : Array Value} (hw : own_H a0 Z) := slot_ne (Or.inl (own_w hw 326 rfl)) (Or.inl (own_w hw 227 rfl)) own_lm_1029 (t := (.object "java/lang/String")) (t' := (.object "java/lang/String")) own_lm_319 own_lm_319
theorem own_lm_1031 : ("destroyMethodName" : String) ≠ "lazyInit" := by decide +kernel
def own_sn_1032 {Z : State} {a0 : Array Value} (hw : own_H a0 Z) := slot_ne (Or.inl (own_w hw 326 rfl)) (Or.inl (own_w hw 229 rfl)) own_lm_1031 (t := (.object "java/lang/String")) (t' := (.object "java/lang/Boolean")) own_lm_319 own_lm_462
theorem own_lm_1033 : ("destroyMethodName" : String) ≠ "factoryBeanName" := by decide +kernel
def own_sn_1034 {Z : State} {a0 : Array Value} (hw : own_H a0 Z) := slot_ne (Or.inl (own_w hw 326 rfl)) (Or.inl (own_w hw 233 rfl)) own_lm_1033 (t := (.object "java/lang/String")) (t' := (.object "java/lang/String")) own_lm_319 own_lm_319
theorem own_lm_1035 : ("destroyMethodName" : String) ≠ "factoryMethodName" := by decide +kernel
def own_sn_1036 {Z : State} {a0 : Array Value} (hw : own_H a0 Z) := slot_ne (Or.inl (own_w hw 326 rfl)) (Or.inl (own_w hw 235 rfl)) own_lm_1035 (t := (.object "java/lang/String")) (t' := (.object "java/lang/String")) own_lm_319 own_lm_319
theorem own_lm_1037 : ("destroyMethodName" : String) ≠ "initMethodName" := by decide +kernel
def own_sn_1038 {Z : State} {a0 : Array Value} (hw : own_H a0 Z) := slot_ne (Or.inl (own_w hw 326 rfl)) (Or.inl (own_w hw 324 rfl)) own_lm_1037 (t := (.object "java/lang/String")) (t' := (.object "java/lang/String")) own_lm_319 own_lm_319
theorem own_d_prog_17_41_330 : decode prog_17_method_41_code 330 = .ok (.aload_n 2, 1) := by decide +kernel
theorem own_d_prog_17_41_331 : decode prog_17_method_41_code 331 = .ok (.aload_n 0, 1) := by decide +kernel
theorem own_d_prog_17_41_332 : decode prog_17_method_41_code 332 = .ok (.getfield 339, 3) := by decide +kernel
theorem own_d_prog_17_41_335 : decode prog_17_method_41_code 335 = .ok (.putfield 339, 3) := by decide +kernel
theorem own_lm_1043 : ("origin" : String) ≠ "value" := by decide +kernel
def own_sn_1044 {Z : State} {a0 : Array Value} (hw : own_H a0 Z) := slot_ne (Or.inl (own_w hw 328 rfl)) (Or.inl (own_w hw 221 rfl)) own_lm_1043 (t := (.object "java/lang/String")) (t' := (.object "com/example/temanggung/temanggung/beans/factory/DefinedValue")) own_lm_319 own_lm_396
theorem own_lm_1045 : ("origin" : String) ≠ "abstractDefinition" := by decide +kernel
def own_sn_1046 {Z : State} {a0 : Array Value} (hw : own_H a0 Z) := slot_ne (Or.inl (own_w hw 328 rfl)) (Or.inl (own_w hw 223 rfl)) own_lm_1045 (t := (.object "java/lang/String")) (t' := .boolean) own_lm_319 own_lm_413
theorem own_lm_1047 : ("origin" : String) ≠ "primary" := by decide +kernel
def own_sn_1048 {Z : State} {a0 : Array Value} (hw : own_H a0 Z) := slot_ne (Or.inl (own_w hw 328 rfl)) (Or.inl (own_w hw 225 rfl)) own_lm_1047 (t := (.object "java/lang/String")) (t' := .boolean) own_lm_319 own_lm_413
theorem own_lm_1049 : ("origin" : String) ≠ "scope" := by decide +kernel
def own_sn_1050 {Z : State} {a0 : Array Value} (hw : own_H a0 Z) := slot_ne (Or.inl (own_w hw 328 rfl)) (Or.inl (own_w hw 227 rfl)) own_lm_1049 (t := (.object "java/lang/String")) (t' := (.object "java/lang/String")) own_lm_319 own_lm_319
theorem own_lm_1051 : ("origin" : String) ≠ "lazyInit" := by decide +kernel
def own_sn_1052 {Z : State} {a0 : Array Value} (hw : own_H a0 Z) := slot_ne (Or.inl (own_w hw 328 rfl)) (Or.inl (own_w hw 229 rfl)) own_lm_1051 (t := (.object "java/lang/String")) (t' := (.object "java/lang/Boolean")) own_lm_319 own_lm_462
theorem own_lm_1053 : ("origin" : String) ≠ "factoryBeanName" := by decide +kernel
def own_sn_1054 {Z : State} {a0 : Array Value} (hw : own_H a0 Z) := slot_ne (Or.inl (own_w hw 328 rfl)) (Or.inl (own_w hw 233 rfl)) own_lm_1053 (t := (.object "java/lang/String")) (t' := (.object "java/lang/String")) own_lm_319 own_lm_319
theorem own_lm_1055 : ("origin" : String) ≠ "factoryMethodName" := by decide +kernel
def own_sn_1056 {Z : State} {a0 : Array Value} (hw : own_H a0 Z) := slot_ne (Or.inl (own_w hw 328 rfl)) (Or.inl (own_w hw 235 rfl)) own_lm_1055 (t := (.object "java/lang/String")) (t' := (.object "java/lang/String")) own_lm_319 own_lm_319
theorem own_lm_1057 : ("origin" : String) ≠ "initMethodName" := by decide +kernel
def own_sn_1058 {Z : State} {a0 : Array Value} (hw : own_H a0 Z) := slot_ne (Or.inl (own_w hw 328 rfl)) (Or.inl (own_w hw 324 rfl)) own_lm_1057 (t := (.object "java/lang/String")) (t' := (.object "java/lang/String")) own_lm_319 own_lm_319
theorem own_lm_1059 : ("origin" : String) ≠ "destroyMethodName" := by decide +kernel
def own_sn_1060 {Z : State} {a0 : Array Value} (hw : own_H a0 Z) := slot_ne (Or.inl (own_w hw 328 rfl)) (Or.inl (own_w hw 326 rfl)) own_lm_1059 (t := (.object "java/lang/String")) (t' := (.object "java/lang/String")) own_lm_319 own_lm_319
theorem own_d_prog_17_41_338 : decode prog_17_method_41_code 338 = .ok (.aload_n 2, 1) := by decide +kernel
theorem own_d_prog_17_41_339 : decode prog_17_method_41_code 339 = .ok (.areturn, 1) := by decide +kernel
theorem own_lm_1063 : ("autowire" : String) ≠ "factoryBeanName" := by decide +kernel
def own_sn_1064 {Z : State} {a0 : Array Value} (hw : own_H a0 Z) := slot_ne (Or.inl (own_w hw 148 rfl)) (Or.inl (own_w hw 233 rfl)) own_lm_1063 (t := (.object "com/example/temanggung/temanggung/beans/factory/Autowire")) (t' := (.object "java/lang/String")) own_lm_379 own_lm_319
theorem own_lm_1065 : ("autowire" : String) ≠ "factoryMethodName" := by decide +kernel
def own_sn_1066 {Z : State} {a0 : Array Value} (hw : own_H a0 Z) := slot_ne (Or.inl (own_w hw 148 rfl)) (Or.inl (own_w hw 235 rfl)) own_lm_1065 (t := (.object "com/example/temanggung/temanggung/beans/factory/Autowire")) (t' := (.object "java/lang/String")) own_lm_379 own_lm_319
theorem own_lm_1067 : ("autowire" : String) ≠ "initMethodName" := by decide +kernel
def own_sn_1068 {Z : State} {a0 : Array Value} (hw : own_H a0 Z) := slot_ne (Or.inl (own_w hw 148 rfl)) (Or.inl (own_w hw 324 rfl)) own_lm_1067 (t := (.object "com/example/temanggung/temanggung/beans/factory/Autowire")) (t' := (.object "java/lang/String")) own_lm_379 own_lm_319
theorem own_lm_1069 : ("autowire" : String) ≠ "destroyMethodName" := by decide +kernel
def own_sn_1070 {Z : State} {a0 : Array Value} (hw : own_H a0 Z) := slot_ne (Or.inl (own_w hw 148 rfl)) (Or.inl (own_w hw 326 rfl)) own_lm_1069 (t := (.object "com/example/temanggung/temanggung/beans/factory/Autowire")) (t' := (.object "java/lang/String")) own_lm_379 own_lm_319
theorem own_lm_1071 : ("autowire" : String) ≠ "origin" := by decide +kernel
def own_sn_1072 {Z : State} {a0 : Array Value} (hw : own_H a0 Z) := slot_ne (Or.inl (own_w hw 148 rfl)) (Or.inl (own_w hw 328 rfl)) own_lm_1071 (t := (.object "com/example/temanggung/temanggung/beans/factory/Autowire")) (t' := (.object "java/lang/String")) own_lm_379 own_lm_319
abbrev own_y_1073 : MethodName := ⟨"com/example/temanggung/temanggung/beans/factory/BeanDefinition", "mergedOnto", "(Lcom/example/temanggung/temanggung/beans/factory/BeanDefinition;)Lcom/example/temanggung/temanggung/beans/factory/BeanDefinition;"⟩
theorem own_ef_rmMN (m : MethodId) (a : Addr) (b : Addr)  : entryFrame m #[(.ref a), (.ref b)] 6 = mkF m 0 #[.val (.ref a), .val (.ref b), .unset, .unset, .unset, .unset] [] := by first | (simp [entryFrame, mkF, argsToLocals, Value.category, maxLocals]; done) | rfl
def QrmMN (Z : State) (w0 w1 w2 w3 wl wle wd mAL mUL mUR mOA : Addr) (wcs : Int32) (kle kd : ClassId) (a : Addr) (b : Addr) (ca : Addr) (pv : Addr) (wt : Addr) (u1 : Value) (ca2 : Addr) (pv2 : Addr) (wt2 : Addr) (u2 : Value) (h0 : Heap) (n0 : Nat) (v : Option Value) (h : Heap) (L : List Loc) : Prop := ∃ r : Addr, ∃ u3 : Value, v = some (.ref r) ∧ Fr n0 L ∧ Keep h0 h [] ∧ h0.size ≤ r ∧ Exa Z h r own_c_235 ∧ Fld Z h r own_c_235 "autowire" own_c_559 u3 ∧ u3 = own_or u1 u2
set_option maxRecDepth 65536 in
set_option maxHeartbeats 40000000 in
theorem rmMN (l : Launch) (Z : State) (a0 : Array Value) (hw : own_H a0 Z) (ws : List Jvm.Cond) (w0 w1 w2 w3 wl wle wd mAL mUL mUR mOA : Addr) (wcs : Int32) (kle kd : ClassId) (hS : own_S Z w0 w1 w2 w3 wl wle wd mAL mUL mUR mOA wcs kle kd) (a : Addr) (b : Addr) (ca : Addr) (pv : Addr) (wt : Addr) (u1 : Value) (ca2 : Addr) (pv2 : Addr) (wt2 : Addr) (u2 : Value) (h0 : Heap) (n0 : Nat) (O0 : Old Z n0 h0) (B0 : Exa Z h0 a own_c_235) (B1 : Fld Z h0 a own_c_235 "qualifiers" "Ljava/util/List;" (.ref wl)) (B2 : Fld Z h0 a own_c_235 "dependsOn" "Ljava/util/List;" (.ref wl)) (B3 : Fld Z h0 a own_c_235 "constructorArguments" "Ljava/util/List;" (.ref ca)) (B4 : Fld Z h0 a own_c_235 "propertyValues" "Ljava/util/List;" (.ref pv)) (B5 : Fld Z h0 a own_c_235 "watchers" "Ljava/util/List;" (.ref wt)) (B6 : Fld Z h0 a own_c_235 "className" "Ljava/lang/String;" .null) (B7 : Fld Z h0 a own_c_235 "autowire" own_c_559 u1) (B8 : Fld Z h0 a own_c_235 "value" own_c_560 .null) (B9 : Fld Z h0 a own_c_235 "abstractDefinition" "Z" (.int (0 : Int32))) (B10 : Fld Z h0 a own_c_235 "primary" "Z" (.int (0 : Int32))) (B11 : Fld Z h0 a own_c_235 "scope" "Ljava/lang/String;" .null) (B12 : Fld Z h0 a own_c_235 "lazyInit" "Ljava/lang/Boolean;" .null) (B13 : Fld Z h0 a own_c_235 "factoryBeanName" "Ljava/lang/String;" .null) (B14 : Fld Z h0 a own_c_235 "factoryMethodName" "Ljava/lang/String;" .null) (B15 : Fld Z h0 a own_c_235 "initMethodName" "Ljava/lang/String;" .null) (B16 : Fld Z h0 a own_c_235 "destroyMethodName" "Ljava/lang/String;" .null) (B17 : Fld Z h0 a own_c_235 "origin" "Ljava/lang/String;" .null) (D0 : Exa Z h0 b own_c_235) (D1 : Fld Z h0 b own_c_235 "qualifiers" "Ljava/util/List;" (.ref wl)) (D2 : Fld Z h0 b own_c_235 "dependsOn" "Ljava/util/List;" (.ref wl)) (D3 : Fld Z h0 b own_c_235 "constructorArguments" "Ljava/util/List;" (.ref ca2)) (D4 : Fld Z h0 b own_c_235 "propertyValues" "Ljava/util/List;" (.ref pv2)) (D5 : Fld Z h0 b own_c_235 "watchers" "Ljava/util/List;" (.ref wt2)) (D6 : Fld Z h0 b own_c_235 "className" "Ljava/lang/String;" .null) (D7 : Fld Z h0 b own_c_235 "autowire" own_c_559 u2) (D8 : Fld Z h0 b own_c_235 "value" own_c_560 .null) (D9 : Fld Z h0 b own_c_235 "abstractDefinition" "Z" (.int (0 : Int32))) (D10 : Fld Z h0 b own_c_235 "primary" "Z" (.int (0 : Int32))) (D11 : Fld Z h0 b own_c_235 "scope" "Ljava/lang/String;" .null) (D12 : Fld Z h0 b own_c_235 "lazyInit" "Ljava/lang/Boolean;" .null) (D13 : Fld Z h0 b own_c_235 "factoryBeanName" "Ljava/lang/String;" .null) (D14 : Fld Z h0 b own_c_235 "factoryMethodName" "Ljava/lang/String;" .null) (D15 : Fld Z h0 b own_c_235 "initMethodName" "Ljava/lang/String;" .null) (D16 : Fld Z h0 b own_c_235 "destroyMethodName" "Ljava/lang/String;" .null) (D17 : Fld Z h0 b own_c_235 "origin" "Ljava/lang/String;" .null) (L0 : Exa Z h0 ca "java/util/ArrayList") (L1 : Fld Z h0 ca own_c_70 "modCount" "I" (.int (0 : Int32))) (L2 : Fld Z h0 ca "java/util/ArrayList" "size" "I" (.int (0 : Int32))) (L3 : Fld Z h0 ca "java/util/ArrayList" "elementData" "[Ljava/lang/Object;" (.ref wd)) (M0 : Exa Z h0 pv "java/util/ArrayList") (M1 : Fld Z h0 pv own_c_70 "modCount" "I" (.int (0 : Int32))) (M2 : Fld Z h0 pv "java/util/ArrayList" "size" "I" (.int (0 : Int32))) (M3 : Fld Z h0 pv "java/util/ArrayList" "elementData" "[Ljava/lang/Object;" (.ref wd)) (L2_0 : Exa Z h0 ca2 "java/util/ArrayList") (L2_1 : Fld Z h0 ca2 own_c_70 "modCount" "I" (.int (0 : Int32))) (L2_2 : Fld Z h0 ca2 "java/util/ArrayList" "size" "I" (.int (0 : Int32))) (L2_3 : Fld Z h0 ca2 "java/util/ArrayList" "elementData" "[Ljava/lang/Object;" (.ref wd)) (M2_0 : Exa Z h0 pv2 "java/util/ArrayList") (M2_1 : Fld Z h0 pv2 own_c_70 "modCount" "I" (.int (0 : Int32))) (M2_2 : Fld Z h0 pv2 "java/util/ArrayList" "size" "I" (.int (0 : Int32))) (M2_3 : Fld Z h0 pv2 "java/util/ArrayList" "elementData" "[Ljava/lang/Object;" (.ref wd)) (hu1 : u1.isRef = true) (hu2 : u2.isRef = true) (aw1 : own_AW Z u1) (aw2 : own_AW Z u2) :
    own_Met l own_y_1073 prog_17_method_41_code 6 (some (.object "com/example/temanggung/temanggung/beans/factory/BeanDefinition")) ws ({ frames := 6, cells := 11, slots := 36, locals := 84 } : Room) Z h0 #[(.ref a), (.ref b)] (QrmMN Z w0 w1 w2 w3 wl wle wd mAL mUL mUR mOA wcs kle kd a b ca pv wt u1 ca2 pv2 wt2 u2 h0 n0) := by
  refine own_body (plainFor_of_name own_pn_234) ?_
  intro p e s m below meth c s₁ hx hby hml hown hnm hret hlk hZ e0 X0
  have N0 := Fr.nil n0
  refine own_st (fun u_ k_ => castTop (own_ef_rmMN m a b) k_) ?_
  show own_Go p e below _ (s₁.setTop (mkF m 0 #[.val (.ref a), .val (.ref b), .unset, .unset, .unset, .unset] []))
  obtain ⟨T441, h441, X441, e441, E441, A441, D441, U441, st441⟩ := newO X0 hx hZ hown (own_w hw 214 rfl) (own_w hw 27 rfl) (own_w hw 28 rfl) e0 (g := (mkF m 0 #[.val (.ref a), .val (.ref b), .unset, .unset, .unset, .unset] [])) rfl (hb hby own_d_prog_17_41_0) (by decide) (by decide)
  obtain ⟨b441, g441⟩ : ∃ z, z = h0.size := ⟨_, rfl⟩
  rw [← g441] at A441 D441 U441 st441
  have F441_qualifiers : Fld Z h441 b441 own_c_235 "qualifiers" "Ljava/util/List;" .null := D441 (Or.inl (own_w hw 40 rfl)) (ty := (.object "java/util/List")) own_lm_104
  have F441_dependsOn : Fld Z h441 b441 own_c_235 "dependsOn" "Ljava/util/List;" .null := D441 (Or.inl (own_w hw 42 rfl)) (ty := (.object "java/util/List")) own_lm_104
  have F441_constructorArguments : Fld Z h441 b441 own_c_235 "constructorArguments" "Ljava/util/List;" .null := D441 (Or.inr (own_w hw 68 rfl)) (ty := (.object "java/util/List")) own_lm_104
  have F441_constructorArgumentsView : Fld Z h441 b441 own_c_235 "constructorArgumentsView" "Ljava/util/List;" .null := D441 (Or.inr (own_w hw 113 rfl)) (ty := (.object "java/util/List")) own_lm_104
  have F441_propertyValues : Fld Z h441 b441 own_c_235 "propertyValues" "Ljava/util/List;" .null := D441 (Or.inr (own_w hw 115 rfl)) (ty := (.object "java/util/List")) own_lm_104
  have F441_propertyValuesView : Fld Z h441 b441 own_c_235 "propertyValuesView" "Ljava/util/List;" .null := D441 (Or.inr (own_w hw 117 rfl)) (ty := (.object "java/util/List")) own_lm_104
  have F441_watchers : Fld Z h441 b441 own_c_235 "watchers" "Ljava/util/List;" .null := D441 (Or.inr (own_w hw 139 rfl)) (ty := (.object "java/util/List")) own_lm_104
  have F441_className : Fld Z h441 b441 own_c_235 "className" "Ljava/lang/String;" .null := D441 (Or.inl (own_w hw 141 rfl)) (ty := (.object "java/lang/String")) own_lm_319
  have F441_autowire : Fld Z h441 b441 own_c_235 "autowire" own_c_559 .null := D441 (Or.inl (own_w hw 148 rfl)) (ty := (.object "com/example/temanggung/temanggung/beans/factory/Autowire")) own_lm_379
  have F441_value : Fld Z h441 b441 own_c_235 "value" own_c_560 .null := D441 (Or.inl (own_w hw 221 rfl)) (ty := (.object "com/example/temanggung/temanggung/beans/factory/DefinedValue")) own_lm_396
  have F441_abstractDefinition : Fld Z h441 b441 own_c_235 "abstractDefinition" "Z" (.int (0 : Int32)) := D441 (Or.inl (own_w hw 223 rfl)) (ty := .boolean) own_lm_413
  have F441_primary : Fld Z h441 b441 own_c_235 "primary" "Z" (.int (0 : Int32)) := D441 (Or.inl (own_w hw 225 rfl)) (ty := .boolean) own_lm_413
  have F441_scope : Fld Z h441 b441 own_c_235 "scope" "Ljava/lang/String;" .null := D441 (Or.inl (own_w hw 227 rfl)) (ty := (.object "java/lang/String")) own_lm_319
  have F441_lazyInit : Fld Z h441 b441 own_c_235 "lazyInit" "Ljava/lang/Boolean;" .null := D441 (Or.inl (own_w hw 229 rfl)) (ty := (.object "java/lang/Boolean")) own_lm_462
  have F441_factoryBeanName : Fld Z h441 b441 own_c_235 "factoryBeanName" "Ljava/lang/String;" .null := D441 (Or.inl (own_w hw 233 rfl)) (ty := (.object "java/lang/String")) own_lm_319
  have F441_factoryMethodName : Fld Z h441 b441 own_c_235 "factoryMethodName" "Ljava/lang/String;" .null := D441 (Or.inl (own_w hw 235 rfl)) (ty := (.object "java/lang/String")) own_lm_319
  have F441_initMethodName : Fld Z h441 b441 own_c_235 "initMethodName" "Ljava/lang/String;" .null := D441 (Or.inl (own_w hw 324 rfl)) (ty := (.object "java/lang/String")) own_lm_319
  have F441_destroyMethodName : Fld Z h441 b441 own_c_235 "destroyMethodName" "Ljava/lang/String;" .null := D441 (Or.inl (own_w hw 326 rfl)) (ty := (.object "java/lang/String")) own_lm_319
  have F441_origin : Fld Z h441 b441 own_c_235 "origin" "Ljava/lang/String;" .null := D441 (Or.inl (own_w hw 328 rfl)) (ty := (.object "java/lang/String")) own_lm_319
  refine own_st (fun u_ k_ => st441 u_ k_) ?_
  show own_Go p e below _ (T441.setTop (mkF m 3 #[.val (.ref a), .val (.ref b), .unset, .unset, .unset, .unset] [(.ref b441)]))
  refine own_st (fun u_ k_ => XS.dup X441.here hx rfl (hb hby own_d_prog_17_41_3) rfl rfl k_) ?_
  refine own_st (fun u_ k_ => XS.aloadN X441.here hx rfl (hb hby own_d_prog_17_41_4) rfl rfl k_) ?_
  show own_Go p e below _ (T441.setTop (mkF m 5 #[.val (.ref a), .val (.ref b), .unset, .unset, .unset, .unset] [(.ref a), (.ref b441), (.ref b441)]))
  have F442 := (Fld.ext E441 B6)
  obtain ⟨T443, X443, e443, st443⟩ := getF X441 hx hZ hown (host := "") (Or.inl (own_w hw 140 rfl)) Via.refl e441 F442 (g := (mkF m 5 #[.val (.ref a), .val (.ref b), .unset, .unset, .unset, .unset] [(.ref a), (.ref b441), (.ref b441)])) rfl rfl (hb hby own_d_prog_17_41_5)
  refine own_st (fun u_ k_ => st443 u_ k_) ?_
  show own_Go p e below _ (T443.setTop (mkF m 8 #[.val (.ref a), .val (.ref b), .unset, .unset, .unset, .unset] [.null, (.ref b441), (.ref b441)]))
  refine own_st (fun u_ k_ => XS.aloadN X443.here hx rfl (hb hby own_d_prog_17_41_8) rfl rfl k_) ?_
  have F444 := (Fld.ext E441 D6)
  obtain ⟨T445, X445, e445, st445⟩ := getF X443 hx hZ hown (host := "") (Or.inl (own_w hw 140 rfl)) Via.refl e443 F444 (g := (mkF m 9 #[.val (.ref a), .val (.ref b), .unset, .unset, .unset, .unset] [(.ref b), .null, (.ref b441), (.ref b441)])) rfl rfl (hb hby own_d_prog_17_41_9)
  refine own_st (fun u_ k_ => st445 u_ k_) ?_
  show own_Go p e below _ (T445.setTop (mkF m 12 #[.val (.ref a), .val (.ref b), .unset, .unset, .unset, .unset] [.null, .null, (.ref b441), (.ref b441)]))
  have O447 : Old Z n0 h441 := O0.ext E441
  obtain ⟨T446, v446, L446, X446, hQ446, st446⟩ := own_callS X445 hx hZ (y := own_y_652) hown (own_w hw 215 rfl) (own_w hw 216 rfl) (own_w hw 28 rfl) (own_w hw 217 rfl) own_lm_615 (rmEN l Z a0 hw [] w0 w1 w2 w3 wl wle wd mAL mUL mUR mOA wcs kle kd hS  h441 n0 O447 ) e445 own_pd_796 (argsL := [.null, .null]) (rest := [(.ref b441), (.ref b441)]) rfl rfl (g := (mkF m 12 #[.val (.ref a), .val (.ref b), .unset, .unset, .unset, .unset] [.null, .null, (.ref b441), (.ref b441)])) rfl (by rw [hml]; rfl) rfl (hb hby own_d_prog_17_41_12) (W := 2) rfl (by decide) (by decide) (by decide) (by decide)
  obtain ⟨rfl, M446, e446⟩ := hQ446
  have N446 := Fr.app N0 M446
  refine own_st (fun u_ k_ => st446 u_ k_) ?_
  show own_Go p e below _ (T446.setTop (mkF m 15 #[.val (.ref a), .val (.ref b), .unset, .unset, .unset, .unset] [.null, (.ref b441), (.ref b441)]))
  refine own_st (X446.checkcastNull hx (g := (mkF m 15 #[.val (.ref a), .val (.ref b), .unset, .unset, .unset, .unset] [.null, (.ref b441), (.ref b441)])) rfl rfl (hb hby own_d_prog_17_41_15)) ?_
  show own_Go p e below _ (T446.setTop (mkF m 18 #[.val (.ref a), .val (.ref b), .unset, .unset, .unset, .unset] [.null, (.ref b441), (.ref b441)]))
  have g448 : n0 ≤ b441 := Nat.le_trans (own_nl O0) (Nat.le_of_eq g441.symm)
  obtain ⟨T449, v449, L449, X449, hQ449, st449⟩ := own_callN X446 hx hZ (y := own_y_558) rfl hown (own_w hw 219 rfl) (own_w hw 30 rfl) (own_w hw 28 rfl) (own_w hw 31 rfl) own_lm_615 (rmBI l Z a0 hw [] w0 w1 w2 w3 wl wle wd mAL mUL mUR mOA wcs kle kd hS b441 (.null : Value) h441 n0 O447 g448 rfl A441 F441_qualifiers F441_dependsOn F441_constructorArguments F441_constructorArgumentsView F441_propertyValues F441_propertyValuesView F441_watchers F441_className F441_autowire F441_value F441_abstractDefinition F441_primary F441_scope F441_lazyInit F441_factoryBeanName F441_factoryMethodName F441_initMethodName F441_destroyMethodName F441_origin) e446 own_pd_799 (a := b441) (argsL := [.null]) (rest := [(.ref b441)]) rfl rfl (g := (mkF m 18 #[.val (.ref a), .val (.ref b), .unset, .unset, .unset, .unset] [.null, (.ref b441), (.ref b441)])) rfl (by rw [hml]; rfl) rfl (hb hby own_d_prog_17_41_18) (W := 1) rfl (by decide) (by decide) (by decide) (by decide)
  obtain ⟨ca_450, pv_451, wt_452, ar_453, kr_454, rfl, M449, K449, z455, z456, z457, z458, F459, F460, F461, F462, F463, F464, F465, F466, F467, F468, F469, F470, F471, F472, F473, F474, F475, F476, F477, F478, F479, F480, F481, F482, F483, F484, F485, F486, F487, F488, ne_489⟩ := hQ449
  have N449 := Fr.app N446 M449
  refine own_st (fun u_ k_ => st449 u_ k_) ?_
  show own_Go p e below _ (T449.setTop (mkF m 21 #[.val (.ref a), .val (.ref b), .unset, .unset, .unset, .unset] [(.ref b441)]))
  refine own_st (fun u_ k_ => XS.astoreN X449.here hx rfl (hb hby own_d_prog_17_41_21) rfl rfl (l' := #[.val (.ref a), .val (.ref b), .val (.ref b441), .unset, .unset, .unset]) rfl k_) ?_
  refine own_st (fun u_ k_ => XS.aloadN X449.here hx rfl (hb hby own_d_prog_17_41_22) rfl rfl k_) ?_
  show own_Go p e below _ (T449.setTop (mkF m 23 #[.val (.ref a), .val (.ref b), .val (.ref b441), .unset, .unset, .unset] [(.ref b441)]))
  refine own_st (fun u_ k_ => XS.aloadN X449.here hx rfl (hb hby own_d_prog_17_41_23) rfl rfl k_) ?_
  have ne490 : a ≠ b441 := (Nat.ne_of_lt (Nat.lt_of_lt_of_le B0.lt (Nat.le_of_eq g441.symm)))
  have F491 := ((Fld.ext E441 B8).keep K449 (ninS ne490 nin0))
  obtain ⟨T492, X492, e492, st492⟩ := getF X449 hx hZ hown (host := "") (Or.inl (own_w hw 220 rfl)) Via.refl rfl F491 (g := (mkF m 24 #[.val (.ref a), .val (.ref b), .val (.ref b441), .unset, .unset, .unset] [(.ref a), (.ref b441)])) rfl rfl (hb hby own_d_prog_17_41_24)
  refine own_st (fun u_ k_ => st492 u_ k_) ?_
  show own_Go p e below _ (T492.setTop (mkF m 27 #[.val (.ref a), .val (.ref b), .val (.ref b441), .unset, .unset, .unset] [.null, (.ref b441)]))
  obtain ⟨T493, h493, X493, e493, W493, st493⟩ := putF X492 hx hZ hown (host := "") (Or.inl (own_w hw 220 rfl)) Via.refl e492 F467 F459 (Or.inl (own_w hw 221 rfl)) (own_w hw 27 rfl) (ty := (.object "com/example/temanggung/temanggung/beans/factory/DefinedValue")) own_lm_396 rfl rfl (g := (mkF m 27 #[.val (.ref a), .val (.ref b), .val (.ref b441), .unset, .unset, .unset] [.null, (.ref b441)])) rfl rfl (hb hby own_d_prog_17_41_27)
  have N493 := Fr.snoc X493 N449 g448
  have F494 : Fld Z h493 b441 own_c_235 "value" own_c_560 .null := Fld.same W493 F467
  refine own_st (fun u_ k_ => st493 u_ k_) ?_
  show own_Go p e below _ (T493.setTop (mkF m 30 #[.val (.ref a), .val (.ref b), .val (.ref b441), .unset, .unset, .unset] []))
  refine own_st (fun u_ k_ => XS.aloadN X493.here hx rfl (hb hby own_d_prog_17_41_30) rfl rfl k_) ?_
  refine own_st (fun u_ k_ => XS.aloadN X493.here hx rfl (hb hby own_d_prog_17_41_31) rfl rfl k_) ?_
  show own_Go p e below _ (T493.setTop (mkF m 32 #[.val (.ref a), .val (.ref b), .val (.ref b441), .unset, .unset, .unset] [(.ref a), (.ref b441)]))
  have F495 := (Fld.other W493 ((Fld.ext E441 B9).keep K449 (ninS ne490 nin0)) (Or.inl ne490))
  obtain ⟨T496, X496, e496, st496⟩ := getF X493 hx hZ hown (host := "") (Or.inl (own_w hw 222 rfl)) Via.refl e493 F495 (g := (mkF m 32 #[.val (.ref a), .val (.ref b), .val (.ref b441), .unset, .unset, .unset] [(.ref a), (.ref b441)])) rfl rfl (hb hby own_d_prog_17_41_32)
  refine own_st (fun u_ k_ => st496 u_ k_) ?_
  show own_Go p e below _ (T496.setTop (mkF m 35 #[.val (.ref a), .val (.ref b), .val (.ref b441), .unset, .unset, .unset] [(.int (0 : Int32)), (.ref b441)]))
  have F497 := (Exa.wr W493 F459)
  have F498 := (Fld.other W493 F468 (Or.inr (own_sn_810 hw)))
  obtain ⟨T499, h499, X499, e499, W499, st499⟩ := putF X496 hx hZ hown (host := "") (Or.inl (own_w hw 222 rfl)) Via.refl e496 F498 F497 (Or.inl (own_w hw 223 rfl)) (own_w hw 27 rfl) (ty := .boolean) own_lm_413 rfl rfl (g := (mkF m 35 #[.val (.ref a), .val (.ref b), .val (.ref b441), .unset, .unset, .unset] [(.int (0 : Int32)), (.ref b441)])) rfl rfl (hb hby own_d_prog_17_41_35)
  have N499 := Fr.snoc X499 N493 g448
  have F500 : Fld Z h499 b441 own_c_235 "abstractDefinition" "Z" (.int (0 : Int32)) := Fld.same W499 F498
  refine own_st (fun u_ k_ => st499 u_ k_) ?_
  show own_Go p e below _ (T499.setTop (mkF m 38 #[.val (.ref a), .val (.ref b), .val (.ref b441), .unset, .unset, .unset] []))
  refine own_st (fun u_ k_ => XS.aloadN X499.here hx rfl (hb hby own_d_prog_17_41_38) rfl rfl k_) ?_
  refine own_st (fun u_ k_ => XS.aloadN X499.here hx rfl (hb hby own_d_prog_17_41_39) rfl rfl k_) ?_
  show own_Go p e below _ (T499.setTop (mkF m 40 #[.val (.ref a), .val (.ref b), .val (.ref b441), .unset, .unset, .unset] [(.ref a), (.ref b441)]))
  have F501 := (Fld.other W499 (Fld.other W493 ((Fld.ext E441 B10).keep K449 (ninS ne490 nin0)) (Or.inl ne490)) (Or.inl ne490))
  obtain ⟨T502, X502, e502, st502⟩ := getF X499 hx hZ hown (host := "") (Or.inl (own_w hw 224 rfl)) Via.refl e499 F501 (g := (mkF m 40 #[.val (.ref a), .val (.ref b), .val (.ref b441), .unset, .unset, .unset] [(.ref a), (.ref b441)])) rfl rfl (hb hby own_d_prog_17_41_40)
  refine own_st (fun u_ k_ => st502 u_ k_) ?_
  show own_Go p e below _ (T502.setTop (mkF m 43 #[.val (.ref a), .val (.ref b), .val (.ref b441), .unset, .unset, .unset] [(.int (0 : Int32)), (.ref b441)]))
  have F503 := (Exa.wr W499 F497)
  have F504 := (Fld.other W499 (Fld.other W493 F469 (Or.inr (own_sn_816 hw))) (Or.inr (own_sn_818 hw)))
  obtain ⟨T505, h505, X505, e505, W505, st505⟩ := putF X502 hx hZ hown (host := "") (Or.inl (own_w hw 224 rfl)) Via.refl e502 F504 F503 (Or.inl (own_w hw 225 rfl)) (own_w hw 27 rfl) (ty := .boolean) own_lm_413 rfl rfl (g := (mkF m 43 #[.val (.ref a), .val (.ref b), .val (.ref b441), .unset, .unset, .unset] [(.int (0 : Int32)), (.ref b441)])) rfl rfl (hb hby own_d_prog_17_41_43)
  have N505 := Fr.snoc X505 N499 g448
  have F506 : Fld Z h505 b441 own_c_235 "primary" "Z" (.int (0 : Int32)) := Fld.same W505 F504
  refine own_st (fun u_ k_ => st505 u_ k_) ?_
  show own_Go p e below _ (T505.setTop (mkF m 46 #[.val (.ref a), .val (.ref b), .val (.ref b441), .unset, .unset, .unset] []))
  refine own_st (fun u_ k_ => XS.aloadN X505.here hx rfl (hb hby own_d_prog_17_41_46) rfl rfl k_) ?_
  refine own_st (fun u_ k_ => XS.aloadN X505.here hx rfl (hb hby own_d_prog_17_41_47) rfl rfl k_) ?_
  show own_Go p e below _ (T505.setTop (mkF m 48 #[.val (.ref a), .val (.ref b), .val (.ref b441), .unset, .unset, .unset] [(.ref a), (.ref b441)]))
  have F507 := (Fld.other W505 (Fld.other W499 (Fld.other W493 ((Fld.ext E441 B1).keep K449 (ninS ne490 nin0)) (Or.inl ne490)) (Or.inl ne490)) (Or.inl ne490))
  obtain ⟨T508, X508, e508, st508⟩ := getF X505 hx hZ hown (host := "") (Or.inl (own_w hw 39 rfl)) Via.refl e505 F507 (g := (mkF m 48 #[.val (.ref a), .val (.ref b), .val (.ref b441), .unset, .unset, .unset] [(.ref a), (.ref b441)])) rfl rfl (hb hby own_d_prog_17_41_48)
  refine own_st (fun u_ k_ => st508 u_ k_) ?_
  show own_Go p e below _ (T508.setTop (mkF m 51 #[.val (.ref a), .val (.ref b), .val (.ref b441), .unset, .unset, .unset] [(.ref wl), (.ref b441)]))
  have F509 := (Exa.wr W505 F503)
  have F510 := (Fld.other W505 (Fld.other W499 (Fld.other W493 F460 (Or.inr (own_sn_824 hw))) (Or.inr (own_sn_826 hw))) (Or.inr (own_sn_828 hw)))
  obtain ⟨T511, h511, X511, e511, W511, st511⟩ := putF X508 hx hZ hown (host := "") (Or.inl (own_w hw 39 rfl)) Via.refl e508 F510 F509 (Or.inl (own_w hw 40 rfl)) (own_w hw 27 rfl) (ty := (.object "java/util/List")) own_lm_104 rfl rfl (g := (mkF m 51 #[.val (.ref a), .val (.ref b), .val (.ref b441), .unset, .unset, .unset] [(.ref wl), (.ref b441)])) rfl rfl (hb hby own_d_prog_17_41_51)
  have N511 := Fr.snoc X511 N505 g448
  have F512 : Fld Z h511 b441 own_c_235 "qualifiers" "Ljava/util/List;" (.ref wl) := Fld.same W511 F510
  refine own_st (fun u_ k_ => st511 u_ k_) ?_
  show own_Go p e below _ (T511.setTop (mkF m 54 #[.val (.ref a), .val (.ref b), .val (.ref b441), .unset, .unset, .unset] []))
  refine own_st (fun u_ k_ => XS.aloadN X511.here hx rfl (hb hby own_d_prog_17_41_54) rfl rfl k_) ?_
  refine own_st (fun u_ k_ => XS.aloadN X511.here hx rfl (hb hby own_d_prog_17_41_55) rfl rfl k_) ?_
  show own_Go p e below _ (T511.setTop (mkF m 56 #[.val (.ref a), .val (.ref b), .val (.ref b441), .unset, .unset, .unset] [(.ref a), (.ref b441)]))
  have F513 := (Fld.other W511 (Fld.other W505 (Fld.other W499 (Fld.other W493 ((Fld.ext E441 B11).keep K449 (ninS ne490 nin0)) (Or.inl ne490)) (Or.inl ne490)) (Or.inl ne490)) (Or.inl ne490))
  obtain ⟨T514, X514, e514, st514⟩ := getF X511 hx hZ hown (host := "") (Or.inl (own_w hw 226 rfl)) Via.refl e511 F513 (g := (mkF m 56 #[.val (.ref a), .val (.ref b), .val (.ref b441), .unset, .unset, .unset] [(.ref a), (.ref b441)])) rfl rfl (hb hby own_d_prog_17_41_56)
  refine own_st (fun u_ k_ => st514 u_ k_) ?_
  show own_Go p e below _ (T514.setTop (mkF m 59 #[.val (.ref a), .val (.ref b), .val (.ref b441), .unset, .unset, .unset] [.null, (.ref b441)]))
  refine own_st (fun u_ k_ => XS.aloadN X514.here hx rfl (hb hby own_d_prog_17_41_59) rfl rfl k_) ?_
  have ne515 : b ≠ b441 := (Nat.ne_of_lt (Nat.lt_of_lt_of_le D0.lt (Nat.le_of_eq g441.symm)))
  have F516 := (Fld.other W511 (Fld.other W505 (Fld.other W499 (Fld.other W493 ((Fld.ext E441 D11).keep K449 (ninS ne515 nin0)) (Or.inl ne515)) (Or.inl ne515)) (Or.inl ne515)) (Or.inl ne515))
  obtain ⟨T517, X517, e517, st517⟩ := getF X514 hx hZ hown (host := "") (Or.inl (own_w hw 226 rfl)) Via.refl e514 F516 (g := (mkF m 60 #[.val (.ref a), .val (.ref b), .val (.ref b441), .unset, .unset, .unset] [(.ref b), .null, (.ref b441)])) rfl rfl (hb hby own_d_prog_17_41_60)
  refine own_st (fun u_ k_ => st517 u_ k_) ?_
  show own_Go p e below _ (T517.setTop (mkF m 63 #[.val (.ref a), .val (.ref b), .val (.ref b441), .unset, .unset, .unset] [.null, .null, (.ref b441)]))
  have O519 : Old Z n0 T449.heap := O447.keep K449 (allS g448 all0)
  have O520 : Old Z n0 h493 := O519.wr W493 g448
  have O521 : Old Z n0 h499 := O520.wr W499 g448
  have O522 : Old Z n0 h505 := O521.wr W505 g448
  have O523 : Old Z n0 h511 := O522.wr W511 g448
  obtain ⟨T518, v518, L518, X518, hQ518, st518⟩ := own_callS X517 hx hZ (y := own_y_652) hown (own_w hw 215 rfl) (own_w hw 216 rfl) (own_w hw 28 rfl) (own_w hw 217 rfl) own_lm_615 (rmEN l Z a0 hw [] w0 w1 w2 w3 wl wle wd mAL mUL mUR mOA wcs kle kd hS  h511 n0 O523 ) e517 own_pd_796 (argsL := [.null, .null]) (rest := [(.ref b441)]) rfl rfl (g := (mkF m 63 #[.val (.ref a), .val (.ref b), .val (.ref b441), .unset, .unset, .unset] [.null, .null, (.ref b441)])) rfl (by rw [hml]; rfl) rfl (hb hby own_d_prog_17_41_63) (W := 1) rfl (by decide) (by decide) (by decide) (by decide)
  obtain ⟨rfl, M518, e518⟩ := hQ518
  have N518 := Fr.app N511 M518
  refine own_st (fun u_ k_ => st518 u_ k_) ?_
  show own_Go p e below _ (T518.setTop (mkF m 66 #[.val (.ref a), .val (.ref b), .val (.ref b441), .unset, .unset, .unset] [.null, (.ref b441)]))
  refine own_st (X518.checkcastNull hx (g := (mkF m 66 #[.val (.ref a), .val (.ref b), .val (.ref b441), .unset, .unset, .unset] [.null, (.ref b441)])) rfl rfl (hb hby own_d_prog_17_41_66)) ?_
  show own_Go p e below _ (T518.setTop (mkF m 69 #[.val (.ref a), .val (.ref b), .val (.ref b441), .unset, .unset, .unset] [.null, (.ref b441)]))
  have F524 := (Exa.wr W511 F509)
  have F525 := (Fld.other W511 (Fld.other W505 (Fld.other W499 (Fld.other W493 F470 (Or.inr (own_sn_838 hw))) (Or.inr (own_sn_840 hw))) (Or.inr (own_sn_842 hw))) (Or.inr (own_sn_446 hw)))
  obtain ⟨T526, h526, X526, e526, W526, st526⟩ := putF X518 hx hZ hown (host := "") (Or.inl (own_w hw 226 rfl)) Via.refl e518 F525 F524 (Or.inl (own_w hw 227 rfl)) (own_w hw 27 rfl) (ty := (.object "java/lang/String")) own_lm_319 rfl rfl (g := (mkF m 69 #[.val (.ref a), .val (.ref b), .val (.ref b441), .unset, .unset, .unset] [.null, (.ref b441)])) rfl rfl (hb hby own_d_prog_17_41_69)
  have N526 := Fr.snoc X526 N518 g448
  have F527 : Fld Z h526 b441 own_c_235 "scope" "Ljava/lang/String;" .null := Fld.same W526 F525
  refine own_st (fun u_ k_ => st526 u_ k_) ?_
  show own_Go p e below _ (T526.setTop (mkF m 72 #[.val (.ref a), .val (.ref b), .val (.ref b441), .unset, .unset, .unset] []))
  refine own_st (fun u_ k_ => XS.aloadN X526.here hx rfl (hb hby own_d_prog_17_41_72) rfl rfl k_) ?_
  refine own_st (fun u_ k_ => XS.aloadN X526.here hx rfl (hb hby own_d_prog_17_41_73) rfl rfl k_) ?_
  show own_Go p e below _ (T526.setTop (mkF m 74 #[.val (.ref a), .val (.ref b), .val (.ref b441), .unset, .unset, .unset] [(.ref a), (.ref b441)]))
  have F528 := (Fld.other W526 (Fld.other W511 (Fld.other W505 (Fld.other W499 (Fld.other W493 ((Fld.ext E441 B12).keep K449 (ninS ne490 nin0)) (Or.inl ne490)) (Or.inl ne490)) (Or.inl ne490)) (Or.inl ne490)) (Or.inl ne490))
  obtain ⟨T529, X529, e529, st529⟩ := getF X526 hx hZ hown (host := "") (Or.inl (own_w hw 228 rfl)) Via.refl e526 F528 (g := (mkF m 74 #[.val (.ref a), .val (.ref b), .val (.ref b441), .unset, .unset, .unset] [(.ref a), (.ref b441)])) rfl rfl (hb hby own_d_prog_17_41_74)
  refine own_st (fun u_ k_ => st529 u_ k_) ?_
  show own_Go p e below _ (T529.setTop (mkF m 77 #[.val (.ref a), .val (.ref b), .val (.ref b441), .unset, .unset, .unset] [.null, (.ref b441)]))
  refine own_st (fun u_ k_ => XS.aloadN X529.here hx rfl (hb hby own_d_prog_17_41_77) rfl rfl k_) ?_
  have F530 := (Fld.other W526 (Fld.other W511 (Fld.other W505 (Fld.other W499 (Fld.other W493 ((Fld.ext E441 D12).keep K449 (ninS ne515 nin0)) (Or.inl ne515)) (Or.inl ne515)) (Or.inl ne515)) (Or.inl ne515)) (Or.inl ne515))
  obtain ⟨T531, X531, e531, st531⟩ := getF X529 hx hZ hown (host := "") (Or.inl (own_w hw 228 rfl)) Via.refl e529 F530 (g := (mkF m 78 #[.val (.ref a), .val (.ref b), .val (.ref b441), .unset, .unset, .unset] [(.ref b), .null, (.ref b441)])) rfl rfl (hb hby own_d_prog_17_41_78)
  refine own_st (fun u_ k_ => st531 u_ k_) ?_
  show own_Go p e below _ (T531.setTop (mkF m 81 #[.val (.ref a), .val (.ref b), .val (.ref b441), .unset, .unset, .unset] [.null, .null, (.ref b441)]))
  have O533 : Old Z n0 h526 := O523.wr W526 g448
  obtain ⟨T532, v532, L532, X532, hQ532, st532⟩ := own_callS X531 hx hZ (y := own_y_652) hown (own_w hw 215 rfl) (own_w hw 216 rfl) (own_w hw 28 rfl) (own_w hw 217 rfl) own_lm_615 (rmEN l Z a0 hw [] w0 w1 w2 w3 wl wle wd mAL mUL mUR mOA wcs kle kd hS  h526 n0 O533 ) e531 own_pd_796 (argsL := [.null, .null]) (rest := [(.ref b441)]) rfl rfl (g := (mkF m 81 #[.val (.ref a), .val (.ref b), .val (.ref b441), .unset, .unset, .unset] [.null, .null, (.ref b441)])) rfl (by rw [hml]; rfl) rfl (hb hby own_d_prog_17_41_81) (W := 1) rfl (by decide) (by decide) (by decide) (by decide)
  obtain ⟨rfl, M532, e532⟩ := hQ532
  have N532 := Fr.app N526 M532
  refine own_st (fun u_ k_ => st532 u_ k_) ?_
  show own_Go p e below _ (T532.setTop (mkF m 84 #[.val (.ref a), .val (.ref b), .val (.ref b441), .unset, .unset, .unset] [.null, (.ref b441)]))
  refine own_st (X532.checkcastNull hx (g := (mkF m 84 #[.val (.ref a), .val (.ref b), .val (.ref b441), .unset, .unset, .unset] [.null, (.ref b441)])) rfl rfl (hb hby own_d_prog_17_41_84)) ?_
  show own_Go p e below _ (T532.setTop (mkF m 87 #[.val (.ref a), .val (.ref b), .val (.ref b441), .unset, .unset, .unset] [.null, (.ref b441)]))
  have F534 := (Exa.wr W526 F524)
  have F535 := (Fld.other W526 (Fld.other W511 (Fld.other W505 (Fld.other W499 (Fld.other W493 F471 (Or.inr (own_sn_852 hw))) (Or.inr (own_sn_854 hw))) (Or.inr (own_sn_856 hw))) (Or.inr (own_sn_463 hw))) (Or.inr (own_sn_858 hw)))
  obtain ⟨T536, h536, X536, e536, W536, st536⟩ := putF X532 hx hZ hown (host := "") (Or.inl (own_w hw 228 rfl)) Via.refl e532 F535 F534 (Or.inl (own_w hw 229 rfl)) (own_w hw 27 rfl) (ty := (.object "java/lang/Boolean")) own_lm_462 rfl rfl (g := (mkF m 87 #[.val (.ref a), .val (.ref b), .val (.ref b441), .unset, .unset, .unset] [.null, (.ref b441)])) rfl rfl (hb hby own_d_prog_17_41_87)
  have N536 := Fr.snoc X536 N532 g448
  have F537 : Fld Z h536 b441 own_c_235 "lazyInit" "Ljava/lang/Boolean;" .null := Fld.same W536 F535
  refine own_st (fun u_ k_ => st536 u_ k_) ?_
  show own_Go p e below _ (T536.setTop (mkF m 90 #[.val (.ref a), .val (.ref b), .val (.ref b441), .unset, .unset, .unset] []))
  refine own_st (fun u_ k_ => XS.aloadN X536.here hx rfl (hb hby own_d_prog_17_41_90) rfl rfl k_) ?_
  refine own_st (fun u_ k_ => XS.aloadN X536.here hx rfl (hb hby own_d_prog_17_41_91) rfl rfl k_) ?_
  show own_Go p e below _ (T536.setTop (mkF m 92 #[.val (.ref a), .val (.ref b), .val (.ref b441), .unset, .unset, .unset] [(.ref a), (.ref b441)]))
  have F538 := (Fld.other W536 (Fld.other W526 (Fld.other W511 (Fld.other W505 (Fld.other W499 (Fld.other W493 ((Fld.ext E441 B7).keep K449 (ninS ne490 nin0)) (Or.inl ne490)) (Or.inl ne490)) (Or.inl ne490)) (Or.inl ne490)) (Or.inl ne490)) (Or.inl ne490))
  obtain ⟨T539, X539, e539, st539⟩ := getF X536 hx hZ hown (host := "") (Or.inl (own_w hw 147 rfl)) Via.refl e536 F538 (g := (mkF m 92 #[.val (.ref a), .val (.ref b), .val (.ref b441), .unset, .unset, .unset] [(.ref a), (.ref b441)])) rfl rfl (hb hby own_d_prog_17_41_92)
  refine own_st (fun u_ k_ => st539 u_ k_) ?_
  show own_Go p e below _ (T539.setTop (mkF m 95 #[.val (.ref a), .val (.ref b), .val (.ref b441), .unset, .unset, .unset] [u1, (.ref b441)]))
  refine own_st (fun u_ k_ => XS.aloadN X539.here hx rfl (hb hby own_d_prog_17_41_95) rfl rfl k_) ?_
  have F540 := (Fld.other W536 (Fld.other W526 (Fld.other W511 (Fld.other W505 (Fld.other W499 (Fld.other W493 ((Fld.ext E441 D7).keep K449 (ninS ne515 nin0)) (Or.inl ne515)) (Or.inl ne515)) (Or.inl ne515)) (Or.inl ne515)) (Or.inl ne515)) (Or.inl ne515))
  obtain ⟨T541, X541, e541, st541⟩ := getF X539 hx hZ hown (host := "") (Or.inl (own_w hw 147 rfl)) Via.refl e539 F540 (g := (mkF m 96 #[.val (.ref a), .val (.ref b), .val (.ref b441), .unset, .unset, .unset] [(.ref b), u1, (.ref b441)])) rfl rfl (hb hby own_d_prog_17_41_96)
  refine own_st (fun u_ k_ => st541 u_ k_) ?_
  show own_Go p e below _ (T541.setTop (mkF m 99 #[.val (.ref a), .val (.ref b), .val (.ref b441), .unset, .unset, .unset] [u2, u1, (.ref b441)]))
  have O543 : Old Z n0 h536 := O533.wr W536 g448
  obtain ⟨T542, v542, L542, X542, hQ542, st542⟩ := own_callS X541 hx hZ (y := own_y_652) hown (own_w hw 215 rfl) (own_w hw 216 rfl) (own_w hw 28 rfl) (own_w hw 217 rfl) own_lm_615 (rmEG l Z a0 hw [] w0 w1 w2 w3 wl wle wd mAL mUL mUR mOA wcs kle kd hS u1 u2 h536 n0 O543 hu1 hu2) e541 own_pd_796 (argsL := [u1, u2]) (rest := [(.ref b441)]) rfl rfl (g := (mkF m 99 #[.val (.ref a), .val (.ref b), .val (.ref b441), .unset, .unset, .unset] [u2, u1, (.ref b441)])) rfl (by rw [hml]; rfl) rfl (hb hby own_d_prog_17_41_99) (W := 1) rfl (by decide) (by decide) (by decide) (by decide)
  obtain ⟨rfl, M542, e542⟩ := hQ542
  have N542 := Fr.app N536 M542
  refine own_st (fun u_ k_ => st542 u_ k_) ?_
  show own_Go p e below _ (T542.setTop (mkF m 102 #[.val (.ref a), .val (.ref b), .val (.ref b441), .unset, .unset, .unset] [(own_or u1 u2), (.ref b441)]))
  rcases own_AWor aw1 aw2 with hq | ⟨wq, hq, Eq⟩
  · rw [hq]
    show own_Go p e below _ (T542.setTop (mkF m 102 #[.val (.ref a), .val (.ref b), .val (.ref b441), .unset, .unset, .unset] [.null, (.ref b441)]))
    refine own_st (X542.checkcastNull hx (g := (mkF m 102 #[.val (.ref a), .val (.ref b), .val (.ref b441), .unset, .unset, .unset] [.null, (.ref b441)])) rfl rfl (hb hby own_d_prog_17_41_102)) ?_
    show own_Go p e below _ (T542.setTop (mkF m 105 #[.val (.ref a), .val (.ref b), .val (.ref b441), .unset, .unset, .unset] [.null, (.ref b441)]))
    have F544 := (Exa.wr W536 F534)
    have F545 := (Fld.other W536 (Fld.other W526 (Fld.other W511 (Fld.other W505 (Fld.other W499 (Fld.other W493 F466 (Or.inr (own_sn_868 hw))) (Or.inr (own_sn_870 hw))) (Or.inr (own_sn_872 hw))) (Or.inr (own_sn_380 hw))) (Or.inr (own_sn_874 hw))) (Or.inr (own_sn_876 hw)))
    obtain ⟨T546, h546, X546, e546, W546, st546⟩ := putF X542 hx hZ hown (host := "") (Or.inl (own_w hw 147 rfl)) Via.refl e542 F545 F544 (Or.inl (own_w hw 148 rfl)) (own_w hw 27 rfl) (ty := (.object "com/example/temanggung/temanggung/beans/factory/Autowire")) own_lm_379 rfl rfl (g := (mkF m 105 #[.val (.ref a), .val (.ref b), .val (.ref b441), .unset, .unset, .unset] [.null, (.ref b441)])) rfl rfl (hb hby own_d_prog_17_41_105)
    have N546 := Fr.snoc X546 N542 g448
    have F547 : Fld Z h546 b441 own_c_235 "autowire" own_c_559 .null := Fld.same W546 F545
    refine own_st (fun u_ k_ => st546 u_ k_) ?_
    show own_Go p e below _ (T546.setTop (mkF m 108 #[.val (.ref a), .val (.ref b), .val (.ref b441), .unset, .unset, .unset] []))
    refine own_st (fun u_ k_ => XS.aloadN X546.here hx rfl (hb hby own_d_prog_17_41_108) rfl rfl k_) ?_
    refine own_st (fun u_ k_ => XS.aloadN X546.here hx rfl (hb hby own_d_prog_17_41_109) rfl rfl k_) ?_
    show own_Go p e below _ (T546.setTop (mkF m 110 #[.val (.ref a), .val (.ref b), .val (.ref b441), .unset, .unset, .unset] [(.ref a), (.ref b441)]))
    have F548 := (Fld.other W546 (Fld.other W536 (Fld.other W526 (Fld.other W511 (Fld.other W505 (Fld.other W499 (Fld.other W493 ((Fld.ext E441 B13).keep K449 (ninS ne490 nin0)) (Or.inl ne490)) (Or.inl ne490)) (Or.inl ne490)) (Or.inl ne490)) (Or.inl ne490)) (Or.inl ne490)) (Or.inl ne490))
    obtain ⟨T549, X549, e549, st549⟩ := getF X546 hx hZ hown (host := "") (Or.inl (own_w hw 232 rfl)) Via.refl e546 F548 (g := (mkF m 110 #[.val (.ref a), .val (.ref b), .val (.ref b441), .unset, .unset, .unset] [(.ref a), (.ref b441)])) rfl rfl (hb hby own_d_prog_17_41_110)
    refine own_st (fun u_ k_ => st549 u_ k_) ?_
    show own_Go p e below _ (T549.setTop (mkF m 113 #[.val (.ref a), .val (.ref b), .val (.ref b441), .unset, .unset, .unset] [.null, (.ref b441)]))
    refine own_st (fun u_ k_ => XS.aloadN X549.here hx rfl (hb hby own_d_prog_17_41_113) rfl rfl k_) ?_
    have F550 := (Fld.other W546 (Fld.other W536 (Fld.other W526 (Fld.other W511 (Fld.other W505 (Fld.other W499 (Fld.other W493 ((Fld.ext E441 D13).keep K449 (ninS ne515 nin0)) (Or.inl ne515)) (Or.inl ne515)) (Or.inl ne515)) (Or.inl ne515)) (Or.inl ne515)) (Or.inl ne515)) (Or.inl ne515))
    obtain ⟨T551, X551, e551, st551⟩ := getF X549 hx hZ hown (host := "") (Or.inl (own_w hw 232 rfl)) Via.refl e549 F550 (g := (mkF m 114 #[.val (.ref a), .val (.ref b), .val (.ref b441), .unset, .unset, .unset] [(.ref b), .null, (.ref b441)])) rfl rfl (hb hby own_d_prog_17_41_114)
    refine own_st (fun u_ k_ => st551 u_ k_) ?_
    show own_Go p e below _ (T551.setTop (mkF m 117 #[.val (.ref a), .val (.ref b), .val (.ref b441), .unset, .unset, .unset] [.null, .null, (.ref b441)]))
    have O553 : Old Z n0 h546 := O543.wr W546 g448
    obtain ⟨T552, v552, L552, X552, hQ552, st552⟩ := own_callS X551 hx hZ (y := own_y_652) hown (own_w hw 215 rfl) (own_w hw 216 rfl) (own_w hw 28 rfl) (own_w hw 217 rfl) own_lm_615 (rmEN l Z a0 hw [] w0 w1 w2 w3 wl wle wd mAL mUL mUR mOA wcs kle kd hS  h546 n0 O553 ) e551 own_pd_796 (argsL := [.null, .null]) (rest := [(.ref b441)]) rfl rfl (g := (mkF m 117 #[.val (.ref a), .val (.ref b), .val (.ref b441), .unset, .unset, .unset] [.null, .null, (.ref b441)])) rfl (by rw [hml]; rfl) rfl (hb hby own_d_prog_17_41_117) (W := 1) rfl (by decide) (by decide) (by decide) (by decide)
    obtain ⟨rfl, M552, e552⟩ := hQ552
    have N552 := Fr.app N546 M552
    refine own_st (fun u_ k_ => st552 u_ k_) ?_
    show own_Go p e below _ (T552.setTop (mkF m 120 #[.val (.ref a), .val (.ref b), .val (.ref b441), .unset, .unset, .unset] [.null, (.ref b441)]))
    refine own_st (X552.checkcastNull hx (g := (mkF m 120 #[.val (.ref a), .val (.ref b), .val (.ref b441), .unset, .unset, .unset] [.null, (.ref b441)])) rfl rfl (hb hby own_d_prog_17_41_120)) ?_
    show own_Go p e below _ (T552.setTop (mkF m 123 #[.val (.ref a), .val (.ref b), .val (.ref b441), .unset, .unset, .unset] [.null, (.ref b441)]))
    have F554 := (Exa.wr W546 F544)
    have F555 := (Fld.other W546 (Fld.other W536 (Fld.other W526 (Fld.other W511 (Fld.other W505 (Fld.other W499 (Fld.other W493 F472 (Or.inr (own_sn_886 hw))) (Or.inr (own_sn_888 hw))) (Or.inr (own_sn_890 hw))) (Or.inr (own_sn_479 hw))) (Or.inr (own_sn_892 hw))) (Or.inr (own_sn_894 hw))) (Or.inr (own_sn_638 hw)))
    obtain ⟨T556, h556, X556, e556, W556, st556⟩ := putF X552 hx hZ hown (host := "") (Or.inl (own_w hw 232 rfl)) Via.refl e552 F555 F554 (Or.inl (own_w hw 233 rfl)) (own_w hw 27 rfl) (ty := (.object "java/lang/String")) own_lm_319 rfl rfl (g := (mkF m 123 #[.val (.ref a), .val (.ref b), .val (.ref b441), .unset, .unset, .unset] [.null, (.ref b441)])) rfl rfl (hb hby own_d_prog_17_41_123)
    have N556 := Fr.snoc X556 N552 g448
    have F557 : Fld Z h556 b441 own_c_235 "factoryBeanName" "Ljava/lang/String;" .null := Fld.same W556 F555
    refine own_st (fun u_ k_ => st556 u_ k_) ?_
    show own_Go p e below _ (T556.setTop (mkF m 126 #[.val (.ref a), .val (.ref b), .val (.ref b441), .unset, .unset, .unset] []))
    refine own_st (fun u_ k_ => XS.aloadN X556.here hx rfl (hb hby own_d_prog_17_41_126) rfl rfl k_) ?_
    refine own_st (fun u_ k_ => XS.aloadN X556.here hx rfl (hb hby own_d_prog_17_41_127) rfl rfl k_) ?_
    show own_Go p e below _ (T556.setTop (mkF m 128 #[.val (.ref a), .val (.ref b), .val (.ref b441), .unset, .unset, .unset] [(.ref a), (.ref b441)]))
    have F558 := (Fld.other W556 (Fld.other W546 (Fld.other W536 (Fld.other W526 (Fld.other W511 (Fld.other W505 (Fld.other W499 (Fld.other W493 ((Fld.ext E441 B14).keep K449 (ninS ne490 nin0)) (Or.inl ne490)) (Or.inl ne490)) (Or.inl ne490)) (Or.inl ne490)) (Or.inl ne490)) (Or.inl ne490)) (Or.inl ne490)) (Or.inl ne490))
    obtain ⟨T559, X559, e559, st559⟩ := getF X556 hx hZ hown (host := "") (Or.inl (own_w hw 234 rfl)) Via.refl e556 F558 (g := (mkF m 128 #[.val (.ref a), .val (.ref b), .val (.ref b441), .unset, .unset, .unset] [(.ref a), (.ref b441)])) rfl rfl (hb hby own_d_prog_17_41_128)
    refine own_st (fun u_ k_ => st559 u_ k_) ?_
    show own_Go p e below _ (T559.setTop (mkF m 131 #[.val (.ref a), .val (.ref b), .val (.ref b441), .unset, .unset, .unset] [.null, (.ref b441)]))
    refine own_st (fun u_ k_ => XS.aloadN X559.here hx rfl (hb hby own_d_prog_17_41_131) rfl rfl k_) ?_
    have F560 := (Fld.other W556 (Fld.other W546 (Fld.other W536 (Fld.other W526 (Fld.other W511 (Fld.other W505 (Fld.other W499 (Fld.other W493 ((Fld.ext E441 D14).keep K449 (ninS ne515 nin0)) (Or.inl ne515)) (Or.inl ne515)) (Or.inl ne515)) (Or.inl ne515)) (Or.inl ne515)) (Or.inl ne515)) (Or.inl ne515)) (Or.inl ne515))
    obtain ⟨T561, X561, e561, st561⟩ := getF X559 hx hZ hown (host := "") (Or.inl (own_w hw 234 rfl)) Via.refl e559 F560 (g := (mkF m 132 #[.val (.ref a), .val (.ref b), .val (.ref b441), .unset, .unset, .unset] [(.ref b), .null, (.ref b441)])) rfl rfl (hb hby own_d_prog_17_41_132)
    refine own_st (fun u_ k_ => st561 u_ k_) ?_
    show own_Go p e below _ (T561.setTop (mkF m 135 #[.val (.ref a), .val (.ref b), .val (.ref b441), .unset, .unset, .unset] [.null, .null, (.ref b441)]))
    have O563 : Old Z n0 h556 := O553.wr W556 g448
    obtain ⟨T562, v562, L562, X562, hQ562, st562⟩ := own_callS X561 hx hZ (y := own_y_652) hown (own_w hw 215 rfl) (own_w hw 216 rfl) (own_w hw 28 rfl) (own_w hw 217 rfl) own_lm_615 (rmEN l Z a0 hw [] w0 w1 w2 w3 wl wle wd mAL mUL mUR mOA wcs kle kd hS  h556 n0 O563 ) e561 own_pd_796 (argsL := [.null, .null]) (rest := [(.ref b441)]) rfl rfl (g := (mkF m 135 #[.val (.ref a), .val (.ref b), .val (.ref b441), .unset, .unset, .unset] [.null, .null, (.ref b441)])) rfl (by rw [hml]; rfl) rfl (hb hby own_d_prog_17_41_135) (W := 1) rfl (by decide) (by decide) (by decide) (by decide)
    obtain ⟨rfl, M562, e562⟩ := hQ562
    have N562 := Fr.app N556 M562
    refine own_st (fun u_ k_ => st562 u_ k_) ?_
    show own_Go p e below _ (T562.setTop (mkF m 138 #[.val (.ref a), .val (.ref b), .val (.ref b441), .unset, .unset, .unset] [.null, (.ref b441)]))
    refine own_st (X562.checkcastNull hx (g := (mkF m 138 #[.val (.ref a), .val (.ref b), .val (.ref b441), .unset, .unset, .unset] [.null, (.ref b441)])) rfl rfl (hb hby own_d_prog_17_41_138)) ?_
    show own_Go p e below _ (T562.setTop (mkF m 141 #[.val (.ref a), .val (.ref b), .val (.ref b441), .unset, .unset, .unset] [.null, (.ref b441)]))
    have F564 := (Exa.wr W556 F554)
    have F565 := (Fld.other W556 (Fld.other W546 (Fld.other W536 (Fld.other W526 (Fld.other W511 (Fld.other W505 (Fld.other W499 (Fld.other W493 F473 (Or.inr (own_sn_904 hw))) (Or.inr (own_sn_906 hw))) (Or.inr (own_sn_908 hw))) (Or.inr (own_sn_495 hw))) (Or.inr (own_sn_910 hw))) (Or.inr (own_sn_912 hw))) (Or.inr (own_sn_640 hw))) (Or.inr (own_sn_914 hw)))
    obtain ⟨T566, h566, X566, e566, W566, st566⟩ := putF X562 hx hZ hown (host := "") (Or.inl (own_w hw 234 rfl)) Via.refl e562 F565 F564 (Or.inl (own_w hw 235 rfl)) (own_w hw 27 rfl) (ty := (.object "java/lang/String")) own_lm_319 rfl rfl (g := (mkF m 141 #[.val (.ref a), .val (.ref b), .val (.ref b441), .unset, .unset, .unset] [.null, (.ref b441)])) rfl rfl (hb hby own_d_prog_17_41_141)
    have N566 := Fr.snoc X566 N562 g448
    have F567 : Fld Z h566 b441 own_c_235 "factoryMethodName" "Ljava/lang/String;" .null := Fld.same W566 F565
    refine own_st (fun u_ k_ => st566 u_ k_) ?_
    show own_Go p e below _ (T566.setTop (mkF m 144 #[.val (.ref a), .val (.ref b), .val (.ref b441), .unset, .unset, .unset] []))
    refine own_st (fun u_ k_ => XS.aloadN X566.here hx rfl (hb hby own_d_prog_17_41_144) rfl rfl k_) ?_
    refine own_st (fun u_ k_ => XS.aloadN X566.here hx rfl (hb hby own_d_prog_17_41_145) rfl rfl k_) ?_
    show own_Go p e below _ (T566.setTop (mkF m 146 #[.val (.ref a), .val (.ref b), .val (.ref b441), .unset, .unset, .unset] [(.ref a), (.ref b441)]))
    have F568 := (Fld.other W566 (Fld.other W556 (Fld.other W546 (Fld.other W536 (Fld.other W526 (Fld.other W511 (Fld.other W505 (Fld.other W499 (Fld.other W493 ((Fld.ext E441 B2).keep K449 (ninS ne490 nin0)) (Or.inl ne490)) (Or.inl ne490)) (Or.inl ne490)) (Or.inl ne490)) (Or.inl ne490)) (Or.inl ne490)) (Or.inl ne490)) (Or.inl ne490)) (Or.inl ne490))
    obtain ⟨T569, X569, e569, st569⟩ := getF X566 hx hZ hown (host := "") (Or.inl (own_w hw 41 rfl)) Via.refl e566 F568 (g := (mkF m 146 #[.val (.ref a), .val (.ref b), .val (.ref b441), .unset, .unset, .unset] [(.ref a), (.ref b441)])) rfl rfl (hb hby own_d_prog_17_41_146)
    refine own_st (fun u_ k_ => st569 u_ k_) ?_
    show own_Go p e below _ (T569.setTop (mkF m 149 #[.val (.ref a), .val (.ref b), .val (.ref b441), .unset, .unset, .unset] [(.ref wl), (.ref b441)]))
    have O571 : Old Z n0 h566 := O563.wr W566 g448
    have F572 := Exa.ext O571.2 hS.2.2.2.2.2.2.2.2.2.2.2.1
    obtain ⟨T570, v570, L570, X570, hQ570, st570⟩ := own_callI X569 hx hZ (y := own_y_919) (z := own_y_662) hown (own_w hw 236 rfl) (own_w hw 237 rfl) (mvT hZ (own_w hw 238 rfl)) (own_w hw 239 rfl) (own_w hw 240 rfl) (own_w hw 241 rfl) (own_w hw 242 rfl) (own_w hw 243 rfl) (own_w hw 244 rfl) (own_w hw 245 rfl) own_lm_132 (rmLE l Z a0 hw [] w0 w1 w2 w3 wl wle wd mAL mUL mUR mOA wcs kle kd hS  h566 n0 O571 ) e569 F572 own_pd_230 (argsL := []) (rest := [(.ref b441)]) rfl rfl (g := (mkF m 149 #[.val (.ref a), .val (.ref b), .val (.ref b441), .unset, .unset, .unset] [(.ref wl), (.ref b441)])) rfl (by rw [hml]; rfl) rfl (hb hby own_d_prog_17_41_149) (W := 1) rfl (by decide) (by decide) (by decide) (by decide)
    obtain ⟨rfl, M570, e570⟩ := hQ570
    have N570 := Fr.app N566 M570
    refine own_st (fun u_ k_ => st570 u_ k_) ?_
    show own_Go p e below _ (T570.setTop (mkF m 154 #[.val (.ref a), .val (.ref b), .val (.ref b441), .unset, .unset, .unset] [(.int (1 : Int32)), (.ref b441)]))
    refine own_st (fun u_ k_ => XS.ifNo X570.here hx rfl (hb hby own_d_prog_17_41_154) rfl (XT.i0_eq_f (by decide)) k_) ?_
    refine own_st (fun u_ k_ => XS.aloadN X570.here hx rfl (hb hby own_d_prog_17_41_157) rfl rfl k_) ?_
    show own_Go p e below _ (T570.setTop (mkF m 158 #[.val (.ref a), .val (.ref b), .val (.ref b441), .unset, .unset, .unset] [(.ref b), (.ref b441)]))
    have F573 := (Fld.other W566 (Fld.other W556 (Fld.other W546 (Fld.other W536 (Fld.other W526 (Fld.other W511 (Fld.other W505 (Fld.other W499 (Fld.other W493 ((Fld.ext E441 D2).keep K449 (ninS ne515 nin0)) (Or.inl ne515)) (Or.inl ne515)) (Or.inl ne515)) (Or.inl ne515)) (Or.inl ne515)) (Or.inl ne515)) (Or.inl ne515)) (Or.inl ne515)) (Or.inl ne515))
    obtain ⟨T574, X574, e574, st574⟩ := getF X570 hx hZ hown (host := "") (Or.inl (own_w hw 41 rfl)) Via.refl e570 F573 (g := (mkF m 158 #[.val (.ref a), .val (.ref b), .val (.ref b441), .unset, .unset, .unset] [(.ref b), (.ref b441)])) rfl rfl (hb hby own_d_prog_17_41_158)
    refine own_st (fun u_ k_ => st574 u_ k_) ?_
    show own_Go p e below _ (T574.setTop (mkF m 161 #[.val (.ref a), .val (.ref b), .val (.ref b441), .unset, .unset, .unset] [(.ref wl), (.ref b441)]))
    refine own_st (fun u_ k_ => XS.goto X574.here hx rfl (pc0 := 161) (pc' := 168) rfl (hb hby own_d_prog_17_41_161) (by decide) (by decide) k_) ?_
    have F575 := (Exa.wr W566 F564)
    have F576 := (Fld.other W566 (Fld.other W556 (Fld.other W546 (Fld.other W536 (Fld.other W526 (Fld.other W511 (Fld.other W505 (Fld.other W499 (Fld.other W493 F461 (Or.inr (own_sn_926 hw))) (Or.inr (own_sn_928 hw))) (Or.inr (own_sn_930 hw))) (Or.inr (own_sn_246 hw))) (Or.inr (own_sn_932 hw))) (Or.inr (own_sn_934 hw))) (Or.inr (own_sn_620 hw))) (Or.inr (own_sn_936 hw))) (Or.inr (own_sn_938 hw)))
    obtain ⟨T577, h577, X577, e577, W577, st577⟩ := putF X574 hx hZ hown (host := "") (Or.inl (own_w hw 41 rfl)) Via.refl e574 F576 F575 (Or.inl (own_w hw 42 rfl)) (own_w hw 27 rfl) (ty := (.object "java/util/List")) own_lm_104 rfl rfl (g := (mkF m 168 #[.val (.ref a), .val (.ref b), .val (.ref b441), .unset, .unset, .unset] [(.ref wl), (.ref b441)])) rfl rfl (hb hby own_d_prog_17_41_168)
    have N577 := Fr.snoc X577 N570 g448
    have F578 : Fld Z h577 b441 own_c_235 "dependsOn" "Ljava/util/List;" (.ref wl) := Fld.same W577 F576
    refine own_st (fun u_ k_ => st577 u_ k_) ?_
    show own_Go p e below _ (T577.setTop (mkF m 171 #[.val (.ref a), .val (.ref b), .val (.ref b441), .unset, .unset, .unset] []))
    refine own_st (fun u_ k_ => XS.aloadN X577.here hx rfl (hb hby own_d_prog_17_41_171) rfl rfl k_) ?_
    have F579 := (Fld.other W577 (Fld.other W566 (Fld.other W556 (Fld.other W546 (Fld.other W536 (Fld.other W526 (Fld.other W511 (Fld.other W505 (Fld.other W499 (Fld.other W493 F462 (Or.inr (own_sn_942 hw))) (Or.inr (own_sn_944 hw))) (Or.inr (own_sn_946 hw))) (Or.inr (own_sn_254 hw))) (Or.inr (own_sn_948 hw))) (Or.inr (own_sn_950 hw))) (Or.inr (own_sn_622 hw))) (Or.inr (own_sn_952 hw))) (Or.inr (own_sn_954 hw))) (Or.inr (own_sn_256 hw)))
    obtain ⟨T580, X580, e580, st580⟩ := getF X577 hx hZ hown (host := "") (Or.inl (own_w hw 67 rfl)) Via.refl e577 F579 (g := (mkF m 172 #[.val (.ref a), .val (.ref b), .val (.ref b441), .unset, .unset, .unset] [(.ref b441)])) rfl rfl (hb hby own_d_prog_17_41_172)
    refine own_st (fun u_ k_ => st580 u_ k_) ?_
    show own_Go p e below _ (T580.setTop (mkF m 175 #[.val (.ref a), .val (.ref b), .val (.ref b441), .unset, .unset, .unset] [(.ref ca_450)]))
    refine own_st (fun u_ k_ => XS.aloadN X580.here hx rfl (hb hby own_d_prog_17_41_175) rfl rfl k_) ?_
    have F581 := (Fld.other W577 (Fld.other W566 (Fld.other W556 (Fld.other W546 (Fld.other W536 (Fld.other W526 (Fld.other W511 (Fld.other W505 (Fld.other W499 (Fld.other W493 ((Fld.ext E441 B3).keep K449 (ninS ne490 nin0)) (Or.inl ne490)) (Or.inl ne490)) (Or.inl ne490)) (Or.inl ne490)) (Or.inl ne490)) (Or.inl ne490)) (Or.inl ne490)) (Or.inl ne490)) (Or.inl ne490)) (Or.inl ne490))
    obtain ⟨T582, X582, e582, st582⟩ := getF X580 hx hZ hown (host := "") (Or.inl (own_w hw 67 rfl)) Via.refl e580 F581 (g := (mkF m 176 #[.val (.ref a), .val (.ref b), .val (.ref b441), .unset, .unset, .unset] [(.ref a), (.ref ca_450)])) rfl rfl (hb hby own_d_prog_17_41_176)
    refine own_st (fun u_ k_ => st582 u_ k_) ?_
    show own_Go p e below _ (T582.setTop (mkF m 179 #[.val (.ref a), .val (.ref b), .val (.ref b441), .unset, .unset, .unset] [(.ref ca), (.ref ca_450)]))
    have ne583 : ca ≠ b441 := (Nat.ne_of_lt (Nat.lt_of_lt_of_le L0.lt (Nat.le_of_eq g441.symm)))
    have F584 := (Fld.other W577 (Fld.other W566 (Fld.other W556 (Fld.other W546 (Fld.other W536 (Fld.other W526 (Fld.other W511 (Fld.other W505 (Fld.other W499 (Fld.other W493 ((Fld.ext E441 L2).keep K449 (ninS ne583 nin0)) (Or.inl ne583)) (Or.inl ne583)) (Or.inl ne583)) (Or.inl ne583)) (Or.inl ne583)) (Or.inl ne583)) (Or.inl ne583)) (Or.inl ne583)) (Or.inl ne583)) (Or.inl ne583))
    have O586 : Old Z n0 h577 := O571.wr W577 g448
    have F587 := (Exa.wr W577 (Exa.wr W566 (Exa.wr W556 (Exa.wr W546 (Exa.wr W536 (Exa.wr W526 (Exa.wr W511 (Exa.wr W505 (Exa.wr W499 (Exa.wr W493 ((Exa.ext E441 L0).keep K449)))))))))))
    obtain ⟨T585, v585, L585, X585, hQ585, st585⟩ := own_callI X582 hx hZ (y := own_y_919) (z := own_y_670) hown (own_w hw 236 rfl) (own_w hw 237 rfl) (mvT hZ (own_w hw 238 rfl)) (own_w hw 248 rfl) (own_w hw 249 rfl) (own_w hw 250 rfl) (own_w hw 251 rfl) (own_w hw 80 rfl) (own_w hw 45 rfl) (own_w hw 252 rfl) own_lm_132 (rmAE l Z a0 hw [] w0 w1 w2 w3 wl wle wd mAL mUL mUR mOA wcs kle kd hS ca h577 n0 O586 F584) e582 F587 own_pd_230 (argsL := []) (rest := [(.ref ca_450)]) rfl rfl (g := (mkF m 179 #[.val (.ref a), .val (.ref b), .val (.ref b441), .unset, .unset, .unset] [(.ref ca), (.ref ca_450)])) rfl (by rw [hml]; rfl) rfl (hb hby own_d_prog_17_41_179) (W := 1) rfl (by decide) (by decide) (by decide) (by decide)
    obtain ⟨rfl, M585, e585⟩ := hQ585
    have N585 := Fr.app N577 M585
    refine own_st (fun u_ k_ => st585 u_ k_) ?_
    show own_Go p e below _ (T585.setTop (mkF m 184 #[.val (.ref a), .val (.ref b), .val (.ref b441), .unset, .unset, .unset] [(.int (1 : Int32)), (.ref ca_450)]))
    refine own_st (fun u_ k_ => XS.ifNo X585.here hx rfl (hb hby own_d_prog_17_41_184) rfl (XT.i0_eq_f (by decide)) k_) ?_
    refine own_st (fun u_ k_ => XS.aloadN X585.here hx rfl (hb hby own_d_prog_17_41_187) rfl rfl k_) ?_
    show own_Go p e below _ (T585.setTop (mkF m 188 #[.val (.ref a), .val (.ref b), .val (.ref b441), .unset, .unset, .unset] [(.ref b), (.ref ca_450)]))
    have F588 := (Fld.other W577 (Fld.other W566 (Fld.other W556 (Fld.other W546 (Fld.other W536 (Fld.other W526 (Fld.other W511 (Fld.other W505 (Fld.other W499 (Fld.other W493 ((Fld.ext E441 D3).keep K449 (ninS ne515 nin0)) (Or.inl ne515)) (Or.inl ne515)) (Or.inl ne515)) (Or.inl ne515)) (Or.inl ne515)) (Or.inl ne515)) (Or.inl ne515)) (Or.inl ne515)) (Or.inl ne515)) (Or.inl ne515))
    obtain ⟨T589, X589, e589, st589⟩ := getF X585 hx hZ hown (host := "") (Or.inl (own_w hw 67 rfl)) Via.refl e585 F588 (g := (mkF m 188 #[.val (.ref a), .val (.ref b), .val (.ref b441), .unset, .unset, .unset] [(.ref b), (.ref ca_450)])) rfl rfl (hb hby own_d_prog_17_41_188)
    refine own_st (fun u_ k_ => st589 u_ k_) ?_
    show own_Go p e below _ (T589.setTop (mkF m 191 #[.val (.ref a), .val (.ref b), .val (.ref b441), .unset, .unset, .unset] [(.ref ca2), (.ref ca_450)]))
    refine own_st (fun u_ k_ => XS.goto X589.here hx rfl (pc0 := 191) (pc' := 198) rfl (hb hby own_d_prog_17_41_191) (by decide) (by decide) k_) ?_
    have F590 := (Exa.wr W577 (Exa.wr W566 (Exa.wr W556 (Exa.wr W546 (Exa.wr W536 (Exa.wr W526 (Exa.wr W511 (Exa.wr W505 (Exa.wr W499 (Exa.wr W493 F477))))))))))
    have g591 : n0 ≤ ca_450 := Nat.le_trans (own_nl O447) z455
    have ne592 : ca_450 ≠ b441 := (Ne.symm (Nat.ne_of_lt (Nat.lt_of_lt_of_le F441_constructorArgumentsView.lt z455)))
    have F593 := (Fld.other W577 (Fld.other W566 (Fld.other W556 (Fld.other W546 (Fld.other W536 (Fld.other W526 (Fld.other W511 (Fld.other W505 (Fld.other W499 (Fld.other W493 F478 (Or.inl ne592)) (Or.inl ne592)) (Or.inl ne592)) (Or.inl ne592)) (Or.inl ne592)) (Or.inl ne592)) (Or.inl ne592)) (Or.inl ne592)) (Or.inl ne592)) (Or.inl ne592))
    have F594 := (Exa.wr W577 (Exa.wr W566 (Exa.wr W556 (Exa.wr W546 (Exa.wr W536 (Exa.wr W526 (Exa.wr W511 (Exa.wr W505 (Exa.wr W499 (Exa.wr W493 ((Exa.ext E441 L2_0).keep K449)))))))))))
    have ne595 : ca2 ≠ b441 := (Nat.ne_of_lt (Nat.lt_of_lt_of_le L2_0.lt (Nat.le_of_eq g441.symm)))
    have F596 := (Fld.other W577 (Fld.other W566 (Fld.other W556 (Fld.other W546 (Fld.other W536 (Fld.other W526 (Fld.other W511 (Fld.other W505 (Fld.other W499 (Fld.other W493 ((Fld.ext E441 L2_2).keep K449 (ninS ne595 nin0)) (Or.inl ne595)) (Or.inl ne595)) (Or.inl ne595)) (Or.inl ne595)) (Or.inl ne595)) (Or.inl ne595)) (Or.inl ne595)) (Or.inl ne595)) (Or.inl ne595)) (Or.inl ne595))
    have F597 := (Fld.other W577 (Fld.other W566 (Fld.other W556 (Fld.other W546 (Fld.other W536 (Fld.other W526 (Fld.other W511 (Fld.other W505 (Fld.other W499 (Fld.other W493 ((Fld.ext E441 L2_3).keep K449 (ninS ne595 nin0)) (Or.inl ne595)) (Or.inl ne595)) (Or.inl ne595)) (Or.inl ne595)) (Or.inl ne595)) (Or.inl ne595)) (Or.inl ne595)) (Or.inl ne595)) (Or.inl ne595)) (Or.inl ne595))
    obtain ⟨T598, v598, L598, X598, hQ598, st598⟩ := own_callI X589 hx hZ (y := own_y_963) (z := own_y_736) hown (own_w hw 255 rfl) (own_w hw 256 rfl) (mvT hZ (own_w hw 257 rfl)) (own_w hw 258 rfl) (own_w hw 259 rfl) (own_w hw 260 rfl) (own_w hw 261 rfl) (own_w hw 80 rfl) (own_w hw 45 rfl) (own_w hw 262 rfl) own_lm_132 (rmAA l Z a0 hw [] w0 w1 w2 w3 wl wle wd mAL mUL mUR mOA wcs kle kd hS ca_450 ca2 h577 n0 O586 F590 g591 F593 F594 F596 F597) e589 F590 own_pd_964 (argsL := [(.ref ca2)]) (rest := []) rfl rfl (g := (mkF m 198 #[.val (.ref a), .val (.ref b), .val (.ref b441), .unset, .unset, .unset] [(.ref ca2), (.ref ca_450)])) rfl (by rw [hml]; rfl) rfl (hb hby own_d_prog_17_41_198) (W := 0) rfl (by decide) (by decide) (by decide) (by decide)
    obtain ⟨rfl, M598, K598, F599⟩ := hQ598
    have N598 := Fr.app N585 M598
    refine own_st (fun u_ k_ => st598 u_ k_) ?_
    show own_Go p e below _ (T598.setTop (mkF m 203 #[.val (.ref a), .val (.ref b), .val (.ref b441), .unset, .unset, .unset] [(.int (0 : Int32))]))
    refine own_st (fun u_ k_ => XS.pop X598.here hx rfl (hb hby own_d_prog_17_41_203) rfl rfl k_) ?_
    refine own_st (fun u_ k_ => XS.aloadN X598.here hx rfl (hb hby own_d_prog_17_41_204) rfl rfl k_) ?_
    show own_Go p e below _ (T598.setTop (mkF m 205 #[.val (.ref a), .val (.ref b), .val (.ref b441), .unset, .unset, .unset] [(.ref b441)]))
    have F600 := ((Fld.other W577 (Fld.other W566 (Fld.other W556 (Fld.other W546 (Fld.other W536 (Fld.other W526 (Fld.other W511 (Fld.other W505 (Fld.other W499 (Fld.other W493 F463 (Or.inr (own_sn_969 hw))) (Or.inr (own_sn_971 hw))) (Or.inr (own_sn_973 hw))) (Or.inr (own_sn_276 hw))) (Or.inr (own_sn_975 hw))) (Or.inr (own_sn_977 hw))) (Or.inr (own_sn_624 hw))) (Or.inr (own_sn_979 hw))) (Or.inr (own_sn_981 hw))) (Or.inr (own_sn_278 hw))).keep K598 (ninS (Ne.symm ne592) nin0))
    obtain ⟨T601, X601, e601, st601⟩ := getF X598 hx hZ hown (host := "") (Or.inl (own_w hw 114 rfl)) Via.refl rfl F600 (g := (mkF m 205 #[.val (.ref a), .val (.ref b), .val (.ref b441), .unset, .unset, .unset] [(.ref b441)])) rfl rfl (hb hby own_d_prog_17_41_205)
    refine own_st (fun u_ k_ => st601 u_ k_) ?_
    show own_Go p e below _ (T601.setTop (mkF m 208 #[.val (.ref a), .val (.ref b), .val (.ref b441), .unset, .unset, .unset] [(.ref pv_451)]))
    refine own_st (fun u_ k_ => XS.aloadN X601.here hx rfl (hb hby own_d_prog_17_41_208) rfl rfl k_) ?_
    have ne602 : b ≠ ca_450 := (Nat.ne_of_lt (Nat.lt_of_lt_of_le F444.lt z455))
    have F603 := ((Fld.other W577 (Fld.other W566 (Fld.other W556 (Fld.other W546 (Fld.other W536 (Fld.other W526 (Fld.other W511 (Fld.other W505 (Fld.other W499 (Fld.other W493 ((Fld.ext E441 D4).keep K449 (ninS ne515 nin0)) (Or.inl ne515)) (Or.inl ne515)) (Or.inl ne515)) (Or.inl ne515)) (Or.inl ne515)) (Or.inl ne515)) (Or.inl ne515)) (Or.inl ne515)) (Or.inl ne515)) (Or.inl ne515)).keep K598 (ninS ne602 nin0))
    obtain ⟨T604, X604, e604, st604⟩ := getF X601 hx hZ hown (host := "") (Or.inl (own_w hw 114 rfl)) Via.refl e601 F603 (g := (mkF m 209 #[.val (.ref a), .val (.ref b), .val (.ref b441), .unset, .unset, .unset] [(.ref b), (.ref pv_451)])) rfl rfl (hb hby own_d_prog_17_41_209)
    refine own_st (fun u_ k_ => st604 u_ k_) ?_
    show own_Go p e below _ (T604.setTop (mkF m 212 #[.val (.ref a), .val (.ref b), .val (.ref b441), .unset, .unset, .unset] [(.ref pv2), (.ref pv_451)]))
    have F605 := ((Exa.wr W577 (Exa.wr W566 (Exa.wr W556 (Exa.wr W546 (Exa.wr W536 (Exa.wr W526 (Exa.wr W511 (Exa.wr W505 (Exa.wr W499 (Exa.wr W493 F481)))))))))).keep K598)
    have g606 : n0 ≤ pv_451 := Nat.le_trans (own_nl O447) z456
    have ne607 : pv_451 ≠ b441 := (Ne.symm (Nat.ne_of_lt (Nat.lt_of_lt_of_le F441_constructorArgumentsView.lt z456)))
    have F608 := ((Fld.other W577 (Fld.other W566 (Fld.other W556 (Fld.other W546 (Fld.other W536 (Fld.other W526 (Fld.other W511 (Fld.other W505 (Fld.other W499 (Fld.other W493 F482 (Or.inl ne607)) (Or.inl ne607)) (Or.inl ne607)) (Or.inl ne607)) (Or.inl ne607)) (Or.inl ne607)) (Or.inl ne607)) (Or.inl ne607)) (Or.inl ne607)) (Or.inl ne607)).keep K598 (ninS (Ne.symm ne_489) nin0))
    have F609 := ((Exa.wr W577 (Exa.wr W566 (Exa.wr W556 (Exa.wr W546 (Exa.wr W536 (Exa.wr W526 (Exa.wr W511 (Exa.wr W505 (Exa.wr W499 (Exa.wr W493 ((Exa.ext E441 M2_0).keep K449))))))))))).keep K598)
    have ne610 : pv2 ≠ b441 := (Nat.ne_of_lt (Nat.lt_of_lt_of_le M2_0.lt (Nat.le_of_eq g441.symm)))
    have ne611 : pv2 ≠ ca_450 := (Nat.ne_of_lt (Nat.lt_of_lt_of_le (Nat.lt_of_lt_of_le M2_0.lt E441.1) z455))
    have F612 := ((Fld.other W577 (Fld.other W566 (Fld.other W556 (Fld.other W546 (Fld.other W536 (Fld.other W526 (Fld.other W511 (Fld.other W505 (Fld.other W499 (Fld.other W493 ((Fld.ext E441 M2_2).keep K449 (ninS ne610 nin0)) (Or.inl ne610)) (Or.inl ne610)) (Or.inl ne610)) (Or.inl ne610)) (Or.inl ne610)) (Or.inl ne610)) (Or.inl ne610)) (Or.inl ne610)) (Or.inl ne610)) (Or.inl ne610)).keep K598 (ninS ne611 nin0))
    have F613 := ((Fld.other W577 (Fld.other W566 (Fld.other W556 (Fld.other W546 (Fld.other W536 (Fld.other W526 (Fld.other W511 (Fld.other W505 (Fld.other W499 (Fld.other W493 ((Fld.ext E441 M2_3).keep K449 (ninS ne610 nin0)) (Or.inl ne610)) (Or.inl ne610)) (Or.inl ne610)) (Or.inl ne610)) (Or.inl ne610)) (Or.inl ne610)) (Or.inl ne610)) (Or.inl ne610)) (Or.inl ne610)) (Or.inl ne610)).keep K598 (ninS ne611 nin0))
    have O615 : Old Z n0 T598.heap := O586.keep K598 (allS g591 all0)
    obtain ⟨T614, v614, L614, X614, hQ614, st614⟩ := own_callI X604 hx hZ (y := own_y_963) (z := own_y_736) hown (own_w hw 255 rfl) (own_w hw 256 rfl) (mvT hZ (own_w hw 257 rfl)) (own_w hw 258 rfl) (own_w hw 259 rfl) (own_w hw 260 rfl) (own_w hw 261 rfl) (own_w hw 80 rfl) (own_w hw 45 rfl) (own_w hw 262 rfl) own_lm_132 (rmAA l Z a0 hw [] w0 w1 w2 w3 wl wle wd mAL mUL mUR mOA wcs kle kd hS pv_451 pv2 T598.heap n0 O615 F605 g606 F608 F609 F612 F613) e604 F605 own_pd_964 (argsL := [(.ref pv2)]) (rest := []) rfl rfl (g := (mkF m 212 #[.val (.ref a), .val (.ref b), .val (.ref b441), .unset, .unset, .unset] [(.ref pv2), (.ref pv_451)])) rfl (by rw [hml]; rfl) rfl (hb hby own_d_prog_17_41_212) (W := 0) rfl (by decide) (by decide) (by decide) (by decide)
    obtain ⟨rfl, M614, K614, F616⟩ := hQ614
    have N614 := Fr.app N598 M614
    refine own_st (fun u_ k_ => st614 u_ k_) ?_
    show own_Go p e below _ (T614.setTop (mkF m 217 #[.val (.ref a), .val (.ref b), .val (.ref b441), .unset, .unset, .unset] [(.int (0 : Int32))]))
    refine own_st (fun u_ k_ => XS.pop X614.here hx rfl (hb hby own_d_prog_17_41_217) rfl rfl k_) ?_
    refine own_st (fun u_ k_ => XS.aloadN X614.here hx rfl (hb hby own_d_prog_17_41_218) rfl rfl k_) ?_
    show own_Go p e below _ (T614.setTop (mkF m 219 #[.val (.ref a), .val (.ref b), .val (.ref b441), .unset, .unset, .unset] [(.ref a)]))
    have ne617 : a ≠ ca_450 := (Nat.ne_of_lt (Nat.lt_of_lt_of_le F442.lt z455))
    have ne618 : a ≠ pv_451 := (Nat.ne_of_lt (Nat.lt_of_lt_of_le F442.lt z456))
    have F619 := (((Fld.other W577 (Fld.other W566 (Fld.other W556 (Fld.other W546 (Fld.other W536 (Fld.other W526 (Fld.other W511 (Fld.other W505 (Fld.other W499 (Fld.other W493 ((Fld.ext E441 B4).keep K449 (ninS ne490 nin0)) (Or.inl ne490)) (Or.inl ne490)) (Or.inl ne490)) (Or.inl ne490)) (Or.inl ne490)) (Or.inl ne490)) (Or.inl ne490)) (Or.inl ne490)) (Or.inl ne490)) (Or.inl ne490)).keep K598 (ninS ne617 nin0)).keep K614 (ninS ne618 nin0))
    obtain ⟨T620, X620, e620, st620⟩ := getF X614 hx hZ hown (host := "") (Or.inl (own_w hw 114 rfl)) Via.refl rfl F619 (g := (mkF m 219 #[.val (.ref a), .val (.ref b), .val (.ref b441), .unset, .unset, .unset] [(.ref a)])) rfl rfl (hb hby own_d_prog_17_41_219)
    refine own_st (fun u_ k_ => st620 u_ k_) ?_
    show own_Go p e below _ (T620.setTop (mkF m 222 #[.val (.ref a), .val (.ref b), .val (.ref b441), .unset, .unset, .unset] [(.ref pv)]))
    have F621 := (((Exa.wr W577 (Exa.wr W566 (Exa.wr W556 (Exa.wr W546 (Exa.wr W536 (Exa.wr W526 (Exa.wr W511 (Exa.wr W505 (Exa.wr W499 (Exa.wr W493 ((Exa.ext E441 M0).keep K449))))))))))).keep K598).keep K614)
    have ne622 : pv ≠ b441 := (Nat.ne_of_lt (Nat.lt_of_lt_of_le M0.lt (Nat.le_of_eq g441.symm)))
    have ne623 : pv ≠ ca_450 := (Nat.ne_of_lt (Nat.lt_of_lt_of_le (Nat.lt_of_lt_of_le M0.lt E441.1) z455))
    have ne624 : pv ≠ pv_451 := (Nat.ne_of_lt (Nat.lt_of_lt_of_le (Nat.lt_of_lt_of_le M0.lt E441.1) z456))
    have F625 := (((Fld.other W577 (Fld.other W566 (Fld.other W556 (Fld.other W546 (Fld.other W536 (Fld.other W526 (Fld.other W511 (Fld.other W505 (Fld.other W499 (Fld.other W493 ((Fld.ext E441 M1).keep K449 (ninS ne622 nin0)) (Or.inl ne622)) (Or.inl ne622)) (Or.inl ne622)) (Or.inl ne622)) (Or.inl ne622)) (Or.inl ne622)) (Or.inl ne622)) (Or.inl ne622)) (Or.inl ne622)) (Or.inl ne622)).keep K598 (ninS ne623 nin0)).keep K614 (ninS ne624 nin0))
    have O627 : Old Z n0 T614.heap := O615.keep K614 (allS g606 all0)
    obtain ⟨T626, v626, L626, X626, hQ626, st626⟩ := own_callI X620 hx hZ (y := own_y_223) (z := own_y_779) hown (own_w hw 171 rfl) (own_w hw 172 rfl) (mvT hZ (own_w hw 173 rfl)) (own_w hw 294 rfl) (own_w hw 295 rfl) (own_w hw 296 rfl) (own_w hw 297 rfl) (own_w hw 80 rfl) (own_w hw 45 rfl) (own_w hw 298 rfl) own_lm_132 (rmAI l Z a0 hw [] w0 w1 w2 w3 wl wle wd mAL mUL mUR mOA wcs kle kd hS pv T614.heap n0 O627 F621 F625) e620 F621 own_pd_224 (argsL := []) (rest := []) rfl rfl (g := (mkF m 222 #[.val (.ref a), .val (.ref b), .val (.ref b441), .unset, .unset, .unset] [(.ref pv)])) rfl (by rw [hml]; rfl) rfl (hb hby own_d_prog_17_41_222) (W := 0) rfl (by decide) (by decide) (by decide) (by decide)
    obtain ⟨r_628, rfl, M626, K626, z629, F630, F631, F632⟩ := hQ626
    have N626 := Fr.app N614 M626
    refine own_st (fun u_ k_ => st626 u_ k_) ?_
    show own_Go p e below _ (T626.setTop (mkF m 227 #[.val (.ref a), .val (.ref b), .val (.ref b441), .unset, .unset, .unset] [(.ref r_628)]))
    refine own_st (fun u_ k_ => XS.astoreN X626.here hx rfl (hb hby own_d_prog_17_41_227) rfl rfl (l' := #[.val (.ref a), .val (.ref b), .val (.ref b441), .val (.ref r_628), .unset, .unset]) rfl k_) ?_
    refine own_st (fun u_ k_ => XS.aloadN X626.here hx rfl (hb hby own_d_prog_17_41_228) rfl rfl k_) ?_
    show own_Go p e below _ (T626.setTop (mkF m 229 #[.val (.ref a), .val (.ref b), .val (.ref b441), .val (.ref r_628), .unset, .unset] [(.ref r_628)]))
    have F633 := ((((Fld.other W577 (Fld.other W566 (Fld.other W556 (Fld.other W546 (Fld.other W536 (Fld.other W526 (Fld.other W511 (Fld.other W505 (Fld.other W499 (Fld.other W493 ((Fld.ext E441 M2).keep K449 (ninS ne622 nin0)) (Or.inl ne622)) (Or.inl ne622)) (Or.inl ne622)) (Or.inl ne622)) (Or.inl ne622)) (Or.inl ne622)) (Or.inl ne622)) (Or.inl ne622)) (Or.inl ne622)) (Or.inl ne622)).keep K598 (ninS ne623 nin0)).keep K614 (ninS ne624 nin0)).keep K626 nin0)
    have O635 : Old Z n0 T626.heap := O627.keep K626 all0
    obtain ⟨T634, v634, L634, X634, hQ634, st634⟩ := own_callI X626 hx hZ (y := own_y_228) (z := own_y_788) hown (own_w hw 197 rfl) (own_w hw 198 rfl) (mvT hZ (own_w hw 199 rfl)) (own_w hw 314 rfl) (own_w hw 315 rfl) (own_w hw 316 rfl) (own_w hw 317 rfl) (own_w hw 318 rfl) (own_w hw 301 rfl) (own_w hw 319 rfl) own_lm_229 (rmIH l Z a0 hw [] w0 w1 w2 w3 wl wle wd mAL mUL mUR mOA wcs kle kd hS r_628 pv T626.heap n0 O635 F631 F632 F633) rfl F630 own_pd_230 (argsL := []) (rest := []) rfl rfl (g := (mkF m 229 #[.val (.ref a), .val (.ref b), .val (.ref b441), .val (.ref r_628), .unset, .unset] [(.ref r_628)])) rfl (by rw [hml]; rfl) rfl (hb hby own_d_prog_17_41_229) (W := 0) rfl (by decide) (by decide) (by decide) (by decide)
    obtain ⟨rfl, M634, e634⟩ := hQ634
    have N634 := Fr.app N626 M634
    refine own_st (fun u_ k_ => st634 u_ k_) ?_
    show own_Go p e below _ (T634.setTop (mkF m 234 #[.val (.ref a), .val (.ref b), .val (.ref b441), .val (.ref r_628), .unset, .unset] [(.int (0 : Int32))]))
    refine own_st (fun u_ k_ => XS.ifYes X634.here hx rfl (pc0 := 234) (pc' := 294) rfl (hb hby own_d_prog_17_41_234) rfl (XT.i0_eq_t (by decide)) (by decide) (by decide) k_) ?_
    refine own_st (fun u_ k_ => XS.aloadN X634.here hx rfl (hb hby own_d_prog_17_41_294) rfl rfl k_) ?_
    show own_Go p e below _ (T634.setTop (mkF m 295 #[.val (.ref a), .val (.ref b), .val (.ref b441), .val (.ref r_628), .unset, .unset] [(.ref b441)]))
    refine own_st (fun u_ k_ => XS.aloadN X634.here hx rfl (hb hby own_d_prog_17_41_295) rfl rfl k_) ?_
    have F636 := ((((Fld.other W577 (Fld.other W566 (Fld.other W556 (Fld.other W546 (Fld.other W536 (Fld.other W526 (Fld.other W511 (Fld.other W505 (Fld.other W499 (Fld.other W493 ((Fld.ext E441 B15).keep K449 (ninS ne490 nin0)) (Or.inl ne490)) (Or.inl ne490)) (Or.inl ne490)) (Or.inl ne490)) (Or.inl ne490)) (Or.inl ne490)) (Or.inl ne490)) (Or.inl ne490)) (Or.inl ne490)) (Or.inl ne490)).keep K598 (ninS ne617 nin0)).keep K614 (ninS ne618 nin0)).keep K626 nin0)
    obtain ⟨T637, X637, e637, st637⟩ := getF X634 hx hZ hown (host := "") (Or.inl (own_w hw 323 rfl)) Via.refl e634 F636 (g := (mkF m 296 #[.val (.ref a), .val (.ref b), .val (.ref b441), .val (.ref r_628), .unset, .unset] [(.ref a), (.ref b441)])) rfl rfl (hb hby own_d_prog_17_41_296)
    refine own_st (fun u_ k_ => st637 u_ k_) ?_
    show own_Go p e below _ (T637.setTop (mkF m 299 #[.val (.ref a), .val (.ref b), .val (.ref b441), .val (.ref r_628), .unset, .unset] [.null, (.ref b441)]))
    refine own_st (fun u_ k_ => XS.aloadN X637.here hx rfl (hb hby own_d_prog_17_41_299) rfl rfl k_) ?_
    have ne638 : b ≠ pv_451 := (Nat.ne_of_lt (Nat.lt_of_lt_of_le F444.lt z456))
    have F639 := ((((Fld.other W577 (Fld.other W566 (Fld.other W556 (Fld.other W546 (Fld.other W536 (Fld.other W526 (Fld.other W511 (Fld.other W505 (Fld.other W499 (Fld.other W493 ((Fld.ext E441 D15).keep K449 (ninS ne515 nin0)) (Or.inl ne515)) (Or.inl ne515)) (Or.inl ne515)) (Or.inl ne515)) (Or.inl ne515)) (Or.inl ne515)) (Or.inl ne515)) (Or.inl ne515)) (Or.inl ne515)) (Or.inl ne515)).keep K598 (ninS ne602 nin0)).keep K614 (ninS ne638 nin0)).keep K626 nin0)
    obtain ⟨T640, X640, e640, st640⟩ := getF X637 hx hZ hown (host := "") (Or.inl (own_w hw 323 rfl)) Via.refl e637 F639 (g := (mkF m 300 #[.val (.ref a), .val (.ref b), .val (.ref b441), .val (.ref r_628), .unset, .unset] [(.ref b), .null, (.ref b441)])) rfl rfl (hb hby own_d_prog_17_41_300)
    refine own_st (fun u_ k_ => st640 u_ k_) ?_
    show own_Go p e below _ (T640.setTop (mkF m 303 #[.val (.ref a), .val (.ref b), .val (.ref b441), .val (.ref r_628), .unset, .unset] [.null, .null, (.ref b441)]))
    obtain ⟨T641, v641, L641, X641, hQ641, st641⟩ := own_callS X640 hx hZ (y := own_y_652) hown (own_w hw 215 rfl) (own_w hw 216 rfl) (own_w hw 28 rfl) (own_w hw 217 rfl) own_lm_615 (rmEN l Z a0 hw [] w0 w1 w2 w3 wl wle wd mAL mUL mUR mOA wcs kle kd hS  T626.heap n0 O635 ) e640 own_pd_796 (argsL := [.null, .null]) (rest := [(.ref b441)]) rfl rfl (g := (mkF m 303 #[.val (.ref a), .val (.ref b), .val (.ref b441), .val (.ref r_628), .unset, .unset] [.null, .null, (.ref b441)])) rfl (by rw [hml]; rfl) rfl (hb hby own_d_prog_17_41_303) (W := 1) rfl (by decide) (by decide) (by decide) (by decide)
    obtain ⟨rfl, M641, e641⟩ := hQ641
    have N641 := Fr.app N634 M641
    refine own_st (fun u_ k_ => st641 u_ k_) ?_
    show own_Go p e below _ (T641.setTop (mkF m 306 #[.val (.ref a), .val (.ref b), .val (.ref b441), .val (.ref r_628), .unset, .unset] [.null, (.ref b441)]))
    refine own_st (X641.checkcastNull hx (g := (mkF m 306 #[.val (.ref a), .val (.ref b), .val (.ref b441), .val (.ref r_628), .unset, .unset] [.null, (.ref b441)])) rfl rfl (hb hby own_d_prog_17_41_306)) ?_
    show own_Go p e below _ (T641.setTop (mkF m 309 #[.val (.ref a), .val (.ref b), .val (.ref b441), .val (.ref r_628), .unset, .unset] [.null, (.ref b441)]))
    have F642 := ((((Exa.wr W577 F575).keep K598).keep K614).keep K626)
    have F643 := ((((Fld.other W577 (Fld.other W566 (Fld.other W556 (Fld.other W546 (Fld.other W536 (Fld.other W526 (Fld.other W511 (Fld.other W505 (Fld.other W499 (Fld.other W493 F474 (Or.inr (own_sn_1002 hw))) (Or.inr (own_sn_1004 hw))) (Or.inr (own_sn_1006 hw))) (Or.inr (own_sn_511 hw))) (Or.inr (own_sn_1008 hw))) (Or.inr (own_sn_1010 hw))) (Or.inr (own_sn_642 hw))) (Or.inr (own_sn_1012 hw))) (Or.inr (own_sn_1014 hw))) (Or.inr (own_sn_513 hw))).keep K598 (ninS (Ne.symm ne592) nin0)).keep K614 (ninS (Ne.symm ne607) nin0)).keep K626 nin0)
    obtain ⟨T644, h644, X644, e644, W644, st644⟩ := putF X641 hx hZ hown (host := "") (Or.inl (own_w hw 323 rfl)) Via.refl e641 F643 F642 (Or.inl (own_w hw 324 rfl)) (own_w hw 27 rfl) (ty := (.object "java/lang/String")) own_lm_319 rfl rfl (g := (mkF m 309 #[.val (.ref a), .val (.ref b), .val (.ref b441), .val (.ref r_628), .unset, .unset] [.null, (.ref b441)])) rfl rfl (hb hby own_d_prog_17_41_309)
    have N644 := Fr.snoc X644 N641 g448
    have F645 : Fld Z h644 b441 own_c_235 "initMethodName" "Ljava/lang/String;" .null := Fld.same W644 F643
    refine own_st (fun u_ k_ => st644 u_ k_) ?_
    show own_Go p e below _ (T644.setTop (mkF m 312 #[.val (.ref a), .val (.ref b), .val (.ref b441), .val (.ref r_628), .unset, .unset] []))
    refine own_st (fun u_ k_ => XS.aloadN X644.here hx rfl (hb hby own_d_prog_17_41_312) rfl rfl k_) ?_
    refine own_st (fun u_ k_ => XS.aloadN X644.here hx rfl (hb hby own_d_prog_17_41_313) rfl rfl k_) ?_
    show own_Go p e below _ (T644.setTop (mkF m 314 #[.val (.ref a), .val (.ref b), .val (.ref b441), .val (.ref r_628), .unset, .unset] [(.ref a), (.ref b441)]))
    have F646 := (Fld.other W644 ((((Fld.other W577 (Fld.other W566 (Fld.other W556 (Fld.other W546 (Fld.other W536 (Fld.other W526 (Fld.other W511 (Fld.other W505 (Fld.other W499 (Fld.other W493 ((Fld.ext E441 B16).keep K449 (ninS ne490 nin0)) (Or.inl ne490)) (Or.inl ne490)) (Or.inl ne490)) (Or.inl ne490)) (Or.inl ne490)) (Or.inl ne490)) (Or.inl ne490)) (Or.inl ne490)) (Or.inl ne490)) (Or.inl ne490)).keep K598 (ninS ne617 nin0)).keep K614 (ninS ne618 nin0)).keep K626 nin0) (Or.inl ne490))
    obtain ⟨T647, X647, e647, st647⟩ := getF X644 hx hZ hown (host := "") (Or.inl (own_w hw 325 rfl)) Via.refl e644 F646 (g := (mkF m 314 #[.val (.ref a), .val (.ref b), .val (.ref b441), .val (.ref r_628), .unset, .unset] [(.ref a), (.ref b441)])) rfl rfl (hb hby own_d_prog_17_41_314)
    refine own_st (fun u_ k_ => st647 u_ k_) ?_
    show own_Go p e below _ (T647.setTop (mkF m 317 #[.val (.ref a), .val (.ref b), .val (.ref b441), .val (.ref r_628), .unset, .unset] [.null, (.ref b441)]))
    refine own_st (fun u_ k_ => XS.aloadN X647.here hx rfl (hb hby own_d_prog_17_41_317) rfl rfl k_) ?_
    have F648 := (Fld.other W644 ((((Fld.other W577 (Fld.other W566 (Fld.other W556 (Fld.other W546 (Fld.other W536 (Fld.other W526 (Fld.other W511 (Fld.other W505 (Fld.other W499 (Fld.other W493 ((Fld.ext E441 D16).keep K449 (ninS ne515 nin0)) (Or.inl ne515)) (Or.inl ne515)) (Or.inl ne515)) (Or.inl ne515)) (Or.inl ne515)) (Or.inl ne515)) (Or.inl ne515)) (Or.inl ne515)) (Or.inl ne515)) (Or.inl ne515)).keep K598 (ninS ne602 nin0)).keep K614 (ninS ne638 nin0)).keep K626 nin0) (Or.inl ne515))
    obtain ⟨T649, X649, e649, st649⟩ := getF X647 hx hZ hown (host := "") (Or.inl (own_w hw 325 rfl)) Via.refl e647 F648 (g := (mkF m 318 #[.val (.ref a), .val (.ref b), .val (.ref b441), .val (.ref r_628), .unset, .unset] [(.ref b), .null, (.ref b441)])) rfl rfl (hb hby own_d_prog_17_41_318)
    refine own_st (fun u_ k_ => st649 u_ k_) ?_
    show own_Go p e below _ (T649.setTop (mkF m 321 #[.val (.ref a), .val (.ref b), .val (.ref b441), .val (.ref r_628), .unset, .unset] [.null, .null, (.ref b441)]))
    have O651 : Old Z n0 h644 := O635.wr W644 g448
    obtain ⟨T650, v650, L650, X650, hQ650, st650⟩ := own_callS X649 hx hZ (y := own_y_652) hown (own_w hw 215 rfl) (own_w hw 216 rfl) (own_w hw 28 rfl) (own_w hw 217 rfl) own_lm_615 (rmEN l Z a0 hw [] w0 w1 w2 w3 wl wle wd mAL mUL mUR mOA wcs kle kd hS  h644 n0 O651 ) e649 own_pd_796 (argsL := [.null, .null]) (rest := [(.ref b441)]) rfl rfl (g := (mkF m 321 #[.val (.ref a), .val (.ref b), .val (.ref b441), .val (.ref r_628), .unset, .unset] [.null, .null, (.ref b441)])) rfl (by rw [hml]; rfl) rfl (hb hby own_d_prog_17_41_321) (W := 1) rfl (by decide) (by decide) (by decide) (by decide)
    obtain ⟨rfl, M650, e650⟩ := hQ650
    have N650 := Fr.app N644 M650
    refine own_st (fun u_ k_ => st650 u_ k_) ?_
    show own_Go p e below _ (T650.setTop (mkF m 324 #[.val (.ref a), .val (.ref b), .val (.ref b441), .val (.ref r_628), .unset, .unset] [.null, (.ref b441)]))
    refine own_st (X650.checkcastNull hx (g := (mkF m 324 #[.val (.ref a), .val (.ref b), .val (.ref b441), .val (.ref r_628), .unset, .unset] [.null, (.ref b441)])) rfl rfl (hb hby own_d_prog_17_41_324)) ?_
    show own_Go p e below _ (T650.setTop (mkF m 327 #[.val (.ref a), .val (.ref b), .val (.ref b441), .val (.ref r_628), .unset, .unset] [.null, (.ref b441)]))
    have F652 := (Exa.wr W644 F642)
    have F653 := (Fld.other W644 ((((Fld.other W577 (Fld.other W566 (Fld.other W556 (Fld.other W546 (Fld.other W536 (Fld.other W526 (Fld.other W511 (Fld.other W505 (Fld.other W499 (Fld.other W493 F475 (Or.inr (own_sn_1024 hw))) (Or.inr (own_sn_1026 hw))) (Or.inr (own_sn_1028 hw))) (Or.inr (own_sn_527 hw))) (Or.inr (own_sn_1030 hw))) (Or.inr (own_sn_1032 hw))) (Or.inr (own_sn_644 hw))) (Or.inr (own_sn_1034 hw))) (Or.inr (own_sn_1036 hw))) (Or.inr (own_sn_529 hw))).keep K598 (ninS (Ne.symm ne592) nin0)).keep K614 (ninS (Ne.symm ne607) nin0)).keep K626 nin0) (Or.inr (own_sn_1038 hw)))
    obtain ⟨T654, h654, X654, e654, W654, st654⟩ := putF X650 hx hZ hown (host := "") (Or.inl (own_w hw 325 rfl)) Via.refl e650 F653 F652 (Or.inl (own_w hw 326 rfl)) (own_w hw 27 rfl) (ty := (.object "java/lang/String")) own_lm_319 rfl rfl (g := (mkF m 327 #[.val (.ref a), .val (.ref b), .val (.ref b441), .val (.ref r_628), .unset, .unset] [.null, (.ref b441)])) rfl rfl (hb hby own_d_prog_17_41_327)
    have N654 := Fr.snoc X654 N650 g448
    have F655 : Fld Z h654 b441 own_c_235 "destroyMethodName" "Ljava/lang/String;" .null := Fld.same W654 F653
    refine own_st (fun u_ k_ => st654 u_ k_) ?_
    show own_Go p e below _ (T654.setTop (mkF m 330 #[.val (.ref a), .val (.ref b), .val (.ref b441), .val (.ref r_628), .unset, .unset] []))
    refine own_st (fun u_ k_ => XS.aloadN X654.here hx rfl (hb hby own_d_prog_17_41_330) rfl rfl k_) ?_
    refine own_st (fun u_ k_ => XS.aloadN X654.here hx rfl (hb hby own_d_prog_17_41_331) rfl rfl k_) ?_
    show own_Go p e below _ (T654.setTop (mkF m 332 #[.val (.ref a), .val (.ref b), .val (.ref b441), .val (.ref r_628), .unset, .unset] [(.ref a), (.ref b441)]))
    have F656 := (Fld.other W654 (Fld.other W644 ((((Fld.other W577 (Fld.other W566 (Fld.other W556 (Fld.other W546 (Fld.other W536 (Fld.other W526 (Fld.other W511 (Fld.other W505 (Fld.other W499 (Fld.other W493 ((Fld.ext E441 B17).keep K449 (ninS ne490 nin0)) (Or.inl ne490)) (Or.inl ne490)) (Or.inl ne490)) (Or.inl ne490)) (Or.inl ne490)) (Or.inl ne490)) (Or.inl ne490)) (Or.inl ne490)) (Or.inl ne490)) (Or.inl ne490)).keep K598 (ninS ne617 nin0)).keep K614 (ninS ne618 nin0)).keep K626 nin0) (Or.inl ne490)) (Or.inl ne490))
    obtain ⟨T657, X657, e657, st657⟩ := getF X654 hx hZ hown (host := "") (Or.inl (own_w hw 327 rfl)) Via.refl e654 F656 (g := (mkF m 332 #[.val (.ref a), .val (.ref b), .val (.ref b441), .val (.ref r_628), .unset, .unset] [(.ref a), (.ref b441)])) rfl rfl (hb hby own_d_prog_17_41_332)
    refine own_st (fun u_ k_ => st657 u_ k_) ?_
    show own_Go p e below _ (T657.setTop (mkF m 335 #[.val (.ref a), .val (.ref b), .val (.ref b441), .val (.ref r_628), .unset, .unset] [.null, (.ref b441)]))
    have F658 := (Exa.wr W654 F652)
    have F659 := (Fld.other W654 (Fld.other W644 ((((Fld.other W577 (Fld.other W566 (Fld.other W556 (Fld.other W546 (Fld.other W536 (Fld.other W526 (Fld.other W511 (Fld.other W505 (Fld.other W499 (Fld.other W493 F476 (Or.inr (own_sn_1044 hw))) (Or.inr (own_sn_1046 hw))) (Or.inr (own_sn_1048 hw))) (Or.inr (own_sn_543 hw))) (Or.inr (own_sn_1050 hw))) (Or.inr (own_sn_1052 hw))) (Or.inr (own_sn_646 hw))) (Or.inr (own_sn_1054 hw))) (Or.inr (own_sn_1056 hw))) (Or.inr (own_sn_545 hw))).keep K598 (ninS (Ne.symm ne592) nin0)).keep K614 (ninS (Ne.symm ne607) nin0)).keep K626 nin0) (Or.inr (own_sn_1058 hw))) (Or.inr (own_sn_1060 hw)))
    obtain ⟨T660, h660, X660, e660, W660, st660⟩ := putF X657 hx hZ hown (host := "") (Or.inl (own_w hw 327 rfl)) Via.refl e657 F659 F658 (Or.inl (own_w hw 328 rfl)) (own_w hw 27 rfl) (ty := (.object "java/lang/String")) own_lm_319 rfl rfl (g := (mkF m 335 #[.val (.ref a), .val (.ref b), .val (.ref b441), .val (.ref r_628), .unset, .unset] [.null, (.ref b441)])) rfl rfl (hb hby own_d_prog_17_41_335)
    have N660 := Fr.snoc X660 N654 g448
    have F661 : Fld Z h660 b441 own_c_235 "origin" "Ljava/lang/String;" .null := Fld.same W660 F659
    refine own_st (fun u_ k_ => st660 u_ k_) ?_
    show own_Go p e below _ (T660.setTop (mkF m 338 #[.val (.ref a), .val (.ref b), .val (.ref b441), .val (.ref r_628), .unset, .unset] []))
    refine own_st (fun u_ k_ => XS.aloadN X660.here hx rfl (hb hby own_d_prog_17_41_338) rfl rfl k_) ?_
    have K662 : Keep h0 h441 [] := (Keep.refl h0 []).ext E441
    have z664 : h0.size ≤ b441 := Nat.le_trans (Nat.le_refl _) (Nat.le_of_eq g441.symm)
    have K663 : Keep h0 T449.heap [] := K662.trans K449 (allS (Or.inr z664) all0)
    have K665 : Keep h0 h493 [] := K663.wr W493 (Or.inr z664)
    have K666 : Keep h0 h499 [] := K665.wr W499 (Or.inr z664)
    have K667 : Keep h0 h505 [] := K666.wr W505 (Or.inr z664)
    have K668 : Keep h0 h511 [] := K667.wr W511 (Or.inr z664)
    have K669 : Keep h0 h526 [] := K668.wr W526 (Or.inr z664)
    have K670 : Keep h0 h536 [] := K669.wr W536 (Or.inr z664)
    have K671 : Keep h0 h546 [] := K670.wr W546 (Or.inr z664)
    have K672 : Keep h0 h556 [] := K671.wr W556 (Or.inr z664)
    have K673 : Keep h0 h566 [] := K672.wr W566 (Or.inr z664)
    have K674 : Keep h0 h577 [] := K673.wr W577 (Or.inr z664)
    have z676 : h0.size ≤ ca_450 := Nat.le_trans E441.1 z455
    have K675 : Keep h0 T598.heap [] := K674.trans K598 (allS (Or.inr z676) all0)
    have z678 : h0.size ≤ pv_451 := Nat.le_trans E441.1 z456
    have K677 : Keep h0 T614.heap [] := K675.trans K614 (allS (Or.inr z678) all0)
    have K679 : Keep h0 T626.heap [] := K677.trans K626 all0
    have K680 : Keep h0 h644 [] := K679.wr W644 (Or.inr z664)
    have K681 : Keep h0 h654 [] := K680.wr W654 (Or.inr z664)
    have K682 : Keep h0 h660 [] := K681.wr W660 (Or.inr z664)
    have F683 := (Exa.wr W660 F658)
    have F684 := (Fld.other W660 (Fld.other W654 (Fld.other W644 ((((Fld.other W577 (Fld.other W566 (Fld.other W556 F547 (Or.inr (own_sn_1064 hw))) (Or.inr (own_sn_1066 hw))) (Or.inr (own_sn_382 hw))).keep K598 (ninS (Ne.symm ne592) nin0)).keep K614 (ninS (Ne.symm ne607) nin0)).keep K626 nin0) (Or.inr (own_sn_1068 hw))) (Or.inr (own_sn_1070 hw))) (Or.inr (own_sn_1072 hw)))
    exact own_retX X660 hx hlk hret rfl (Or.inr (Or.inr (Or.inr (Or.inr ⟨rfl, rfl, rfl⟩)))) (hb hby own_d_prog_17_41_339) (by decide) (by decide) (show QrmMN Z w0 w1 w2 w3 wl wle wd mAL mUL mUR mOA wcs kle kd a b ca pv wt u1 ca2 pv2 wt2 u2 h0 n0 (some (.ref b441)) T660.heap _ from (by rw [e660]; exact ⟨b441, .null, rfl, N660, K682, z664, F683, F684, hq.symm⟩))
  · rw [hq]
    show own_Go p e below _ (T542.setTop (mkF m 102 #[.val (.ref a), .val (.ref b), .val (.ref b441), .unset, .unset, .unset] [(.ref wq), (.ref b441)]))
    have F686 := Exa.ext O543.2 Eq
    obtain ⟨T685, X685, e685, st685⟩ := castY X542 hx hZ hown (own_w hw 230 rfl) e542 (Ins.self F686) (g := (mkF m 102 #[.val (.ref a), .val (.ref b), .val (.ref b441), .unset, .unset, .unset] [(.ref wq), (.ref b441)])) rfl rfl (hb hby own_d_prog_17_41_102)
    refine own_st (fun u_ k_ => st685 u_ k_) ?_
    show own_Go p e below _ (T685.setTop (mkF m 105 #[.val (.ref a), .val (.ref b), .val (.ref b441), .unset, .unset, .unset] [(.ref wq), (.ref b441)]))
    have F687 := (Exa.wr W536 F534)
    have F688 := (Fld.other W536 (Fld.other W526 (Fld.other W511 (Fld.other W505 (Fld.other W499 (Fld.other W493 F466 (Or.inr (own_sn_868 hw))) (Or.inr (own_sn_870 hw))) (Or.inr (own_sn_872 hw))) (Or.inr (own_sn_380 hw))) (Or.inr (own_sn_874 hw))) (Or.inr (own_sn_876 hw)))
    obtain ⟨T689, h689, X689, e689, W689, st689⟩ := putF X685 hx hZ hown (host := "") (Or.inl (own_w hw 147 rfl)) Via.refl e685 F688 F687 (Or.inl (own_w hw 148 rfl)) (own_w hw 27 rfl) (ty := (.object "com/example/temanggung/temanggung/beans/factory/Autowire")) own_lm_379 rfl rfl (g := (mkF m 105 #[.val (.ref a), .val (.ref b), .val (.ref b441), .unset, .unset, .unset] [(.ref wq), (.ref b441)])) rfl rfl (hb hby own_d_prog_17_41_105)
    have N689 := Fr.snoc X689 N542 g448
    have F690 : Fld Z h689 b441 own_c_235 "autowire" own_c_559 (.ref wq) := Fld.same W689 F688
    refine own_st (fun u_ k_ => st689 u_ k_) ?_
    show own_Go p e below _ (T689.setTop (mkF m 108 #[.val (.ref a), .val (.ref b), .val (.ref b441), .unset, .unset, .unset] []))
    refine own_st (fun u_ k_ => XS.aloadN X689.here hx rfl (hb hby own_d_prog_17_41_108) rfl rfl k_) ?_
    refine own_st (fun u_ k_ => XS.aloadN X689.here hx rfl (hb hby own_d_prog_17_41_109) rfl rfl k_) ?_
    show own_Go p e below _ (T689.setTop (mkF m 110 #[.val (.ref a), .val (.ref b), .val (.ref b441), .unset, .unset, .unset] [(.ref a), (.ref b441)]))
    have F691 := (Fld.other W689 (Fld.other W536 (Fld.other W526 (Fld.other W511 (Fld.other W505 (Fld.other W499 (Fld.other W493 ((Fld.ext E441 B13).keep K449 (ninS ne490 nin0)) (Or.inl ne490)) (Or.inl ne490)) (Or.inl ne490)) (Or.inl ne490)) (Or.inl ne490)) (Or.inl ne490)) (Or.inl ne490))
    obtain ⟨T692, X692, e692, st692⟩ := getF X689 hx hZ hown (host := "") (Or.inl (own_w hw 232 rfl)) Via.refl e689 F691 (g := (mkF m 110 #[.val (.ref a), .val (.ref b), .val (.ref b441), .unset, .unset, .unset] [(.ref a), (.ref b441)])) rfl rfl (hb hby own_d_prog_17_41_110)
    refine own_st (fun u_ k_ => st692 u_ k_) ?_
    show own_Go p e below _ (T692.setTop (mkF m 113 #[.val (.ref a), .val (.ref b), .val (.ref b441), .unset, .unset, .unset] [.null, (.ref b441)]))
    refine own_st (fun u_ k_ => XS.aloadN X692.here hx rfl (hb hby own_d_prog_17_41_113) rfl rfl k_) ?_
    have F693 := (Fld.other W689 (Fld.other W536 (Fld.other W526 (Fld.other W511 (Fld.other W505 (Fld.other W499 (Fld.other W493 ((Fld.ext E441 D13).keep K449 (ninS ne515 nin0)) (Or.inl ne515)) (Or.inl ne515)) (Or.inl ne515)) (Or.inl ne515)) (Or.inl ne515)) (Or.inl ne515)) (Or.inl ne515))
    obtain ⟨T694, X694, e694, st694⟩ := getF X692 hx hZ hown (host := "") (Or.inl (own_w hw 232 rfl)) Via.refl e692 F693 (g := (mkF m 114 #[.val (.ref a), .val (.ref b), .val (.ref b441), .unset, .unset, .unset] [(.ref b), .null, (.ref b441)])) rfl rfl (hb hby own_d_prog_17_41_114)
    refine own_st (fun u_ k_ => st694 u_ k_) ?_
    show own_Go p e below _ (T694.setTop (mkF m 117 #[.val (.ref a), .val (.ref b), .val (.ref b441), .unset, .unset, .unset] [.null, .null, (.ref b441)]))
    have O696 : Old Z n0 h689 := O543.wr W689 g448
    obtain ⟨T695, v695, L695, X695, hQ695, st695⟩ := own_callS X694 hx hZ (y := own_y_652) hown (own_w hw 215 rfl) (own_w hw 216 rfl) (own_w hw 28 rfl) (own_w hw 217 rfl) own_lm_615 (rmEN l Z a0 hw [] w0 w1 w2 w3 wl wle wd mAL mUL mUR mOA wcs kle kd hS  h689 n0 O696 ) e694 own_pd_796 (argsL := [.null, .null]) (rest := [(.ref b441)]) rfl rfl (g := (mkF m 117 #[.val (.ref a), .val (.ref b), .val (.ref b441), .unset, .unset, .unset] [.null, .null, (.ref b441)])) rfl (by rw [hml]; rfl) rfl (hb hby own_d_prog_17_41_117) (W := 1) rfl (by decide) (by decide) (by decide) (by decide)
    obtain ⟨rfl, M695, e695⟩ := hQ695
    have N695 := Fr.app N689 M695
    refine own_st (fun u_ k_ => st695 u_ k_) ?_
    show own_Go p e below _ (T695.setTop (mkF m 120 #[.val (.ref a), .val (.ref b), .val (.ref b441), .unset, .unset, .unset] [.null, (.ref b441)]))
    refine own_st (X695.checkcastNull hx (g := (mkF m 120 #[.val (.ref a), .val (.ref b), .val (.ref b441), .unset, .unset, .unset] [.null, (.ref b441)])) rfl rfl (hb hby own_d_prog_17_41_120)) ?_
    show own_Go p e below _ (T695.setTop (mkF m 123 #[.val (.ref a), .val (.ref b), .val (.ref b441), .unset, .unset, .unset] [.null, (.ref b441)]))
    have F697 := (Exa.wr W689 F687)
    have F698 := (Fld.other W689 (Fld.other W536 (Fld.other W526 (Fld.other W511 (Fld.other W505 (Fld.other W499 (Fld.other W493 F472 (Or.inr (own_sn_886 hw))) (Or.inr (own_sn_888 hw))) (Or.inr (own_sn_890 hw))) (Or.inr (own_sn_479 hw))) (Or.inr (own_sn_892 hw))) (Or.inr (own_sn_894 hw))) (Or.inr (own_sn_638 hw)))
    obtain ⟨T699, h699, X699, e699, W699, st699⟩ := putF X695 hx hZ hown (host := "") (Or.inl (own_w hw 232 rfl)) Via.refl e695 F698 F697 (Or.inl (own_w hw 233 rfl)) (own_w hw 27 rfl) (ty := (.object "java/lang/String")) own_lm_319 rfl rfl (g := (mkF m 123 #[.val (.ref a), .val (.ref b), .val (.ref b441), .unset, .unset, .unset] [.null, (.ref b441)])) rfl rfl (hb hby own_d_prog_17_41_123)
    have N699 := Fr.snoc X699 N695 g448
    have F700 : Fld Z h699 b441 own_c_235 "factoryBeanName" "Ljava/lang/String;" .null := Fld.same W699 F698
    refine own_st (fun u_ k_ => st699 u_ k_) ?_
    show own_Go p e below _ (T699.setTop (mkF m 126 #[.val (.ref a), .val (.ref b), .val (.ref b441), .unset, .unset, .unset] []))
    refine own_st (fun u_ k_ => XS.aloadN X699.here hx rfl (hb hby own_d_prog_17_41_126) rfl rfl k_) ?_
    refine own_st (fun u_ k_ => XS.aloadN X699.here hx rfl (hb hby own_d_prog_17_41_127) rfl rfl k_) ?_
    show own_Go p e below _ (T699.setTop (mkF m 128 #[.val (.ref a), .val (.ref b), .val (.ref b441), .unset, .unset, .unset] [(.ref a), (.ref b441)]))
    have F701 := (Fld.other W699 (Fld.other W689 (Fld.other W536 (Fld.other W526 (Fld.other W511 (Fld.other W505 (Fld.other W499 (Fld.other W493 ((Fld.ext E441 B14).keep K449 (ninS ne490 nin0)) (Or.inl ne490)) (Or.inl ne490)) (Or.inl ne490)) (Or.inl ne490)) (Or.inl ne490)) (Or.inl ne490)) (Or.inl ne490)) (Or.inl ne490))
    obtain ⟨T702, X702, e702, st702⟩ := getF X699 hx hZ hown (host := "") (Or.inl (own_w hw 234 rfl)) Via.refl e699 F701 (g := (mkF m 128 #[.val (.ref a), .val (.ref b), .val (.ref b441), .unset, .unset, .unset] [(.ref a), (.ref b441)])) rfl rfl (hb hby own_d_prog_17_41_128)
    refine own_st (fun u_ k_ => st702 u_ k_) ?_
    show own_Go p e below _ (T702.setTop (mkF m 131 #[.val (.ref a), .val (.ref b), .val (.ref b441), .unset, .unset, .unset] [.null, (.ref b441)]))
    refine own_st (fun u_ k_ => XS.aloadN X702.here hx rfl (hb hby own_d_prog_17_41_131) rfl rfl k_) ?_
    have F703 := (Fld.other W699 (Fld.other W689 (Fld.other W536 (Fld.other W526 (Fld.other W511 (Fld.other W505 (Fld.other W499 (Fld.other W493 ((Fld.ext E441 D14).keep K449 (ninS ne515 nin0)) (Or.inl ne515)) (Or.inl ne515)) (Or.inl ne515)) (Or.inl ne515)) (Or.inl ne515)) (Or.inl ne515)) (Or.inl ne515)) (Or.inl ne515))
    obtain ⟨T704, X704, e704, st704⟩ := getF X702 hx hZ hown (host := "") (Or.inl (own_w hw 234 rfl)) Via.refl e702 F703 (g := (mkF m 132 #[.val (.ref a), .val (.ref b), .val (.ref b441), .unset, .unset, .unset] [(.ref b), .null, (.ref b441)])) rfl rfl (hb hby own_d_prog_17_41_132)
    refine own_st (fun u_ k_ => st704 u_ k_) ?_
    show own_Go p e below _ (T704.setTop (mkF m 135 #[.val (.ref a), .val (.ref b), .val (.ref b441), .unset, .unset, .unset] [.null, .null, (.ref b441)]))
    have O706 : Old Z n0 h699 := O696.wr W699 g448
    obtain ⟨T705, v705, L705, X705, hQ705, st705⟩ := own_callS X704 hx hZ (y := own_y_652) hown (own_w hw 215 rfl) (own_w hw 216 rfl) (own_w hw 28 rfl) (own_w hw 217 rfl) own_lm_615 (rmEN l Z a0 hw [] w0 w1 w2 w3 wl wle wd mAL mUL mUR mOA wcs kle kd hS  h699 n0 O706 ) e704 own_pd_796 (argsL := [.null, .null]) (rest := [(.ref b441)]) rfl rfl (g := (mkF m 135 #[.val (.ref a), .val (.ref b), .val (.ref b441), .unset, .unset, .unset] [.null, .null, (.ref b441)])) rfl (by rw [hml]; rfl) rfl (hb hby own_d_prog_17_41_135) (W := 1) rfl (by decide) (by decide) (by decide) (by decide)
    obtain ⟨rfl, M705, e705⟩ := hQ705
    have N705 := Fr.app N699 M705
    refine own_st (fun u_ k_ => st705 u_ k_) ?_
    show own_Go p e below _ (T705.setTop (mkF m 138 #[.val (.ref a), .val (.ref b), .val (.ref b441), .unset, .unset, .unset] [.null, (.ref b441)]))
    refine own_st (X705.checkcastNull hx (g := (mkF m 138 #[.val (.ref a), .val (.ref b), .val (.ref b441), .unset, .unset, .unset] [.null, (.ref b441)])) rfl rfl (hb hby own_d_prog_17_41_138)) ?_
    show own_Go p e below _ (T705.setTop (mkF m 141 #[.val (.ref a), .val (.ref b), .val (.ref b441), .unset, .unset, .unset] [.null, (.ref b441)]))
    have F707 := (Exa.wr W699 F697)
    have F708 := (Fld.other W699 (Fld.other W689 (Fld.other W536 (Fld.other W526 (Fld.other W511 (Fld.other W505 (Fld.other W499 (Fld.other W493 F473 (Or.inr (own_sn_904 hw))) (Or.inr (own_sn_906 hw))) (Or.inr (own_sn_908 hw))) (Or.inr (own_sn_495 hw))) (Or.inr (own_sn_910 hw))) (Or.inr (own_sn_912 hw))) (Or.inr (own_sn_640 hw))) (Or.inr (own_sn_914 hw)))
    obtain ⟨T709, h709, X709, e709, W709, st709⟩ := putF X705 hx hZ hown (host := "") (Or.inl (own_w hw 234 rfl)) Via.refl e705 F708 F707 (Or.inl (own_w hw 235 rfl)) (own_w hw 27 rfl) (ty := (.object "java/lang/String")) own_lm_319 rfl rfl (g := (mkF m 141 #[.val (.ref a), .val (.ref b), .val (.ref b441), .unset, .unset, .unset] [.null, (.ref b441)])) rfl rfl (hb hby own_d_prog_17_41_141)
    have N709 := Fr.snoc X709 N705 g448
    have F710 : Fld Z h709 b441 own_c_235 "factoryMethodName" "Ljava/lang/String;" .null := Fld.same W709 F708
    refine own_st (fun u_ k_ => st709 u_ k_) ?_
    show own_Go p e below _ (T709.setTop (mkF m 144 #[.val (.ref a), .val (.ref b), .val (.ref b441), .unset, .unset, .unset] []))
    refine own_st (fun u_ k_ => XS.aloadN X709.here hx rfl (hb hby own_d_prog_17_41_144) rfl rfl k_) ?_
    refine own_st (fun u_ k_ => XS.aloadN X709.here hx rfl (hb hby own_d_prog_17_41_145) rfl rfl k_) ?_
    show own_Go p e below _ (T709.setTop (mkF m 146 #[.val (.ref a), .val (.ref b), .val (.ref b441), .unset, .unset, .unset] [(.ref a), (.ref b441)]))
    have F711 := (Fld.other W709 (Fld.other W699 (Fld.other W689 (Fld.other W536 (Fld.other W526 (Fld.other W511 (Fld.other W505 (Fld.other W499 (Fld.other W493 ((Fld.ext E441 B2).keep K449 (ninS ne490 nin0)) (Or.inl ne490)) (Or.inl ne490)) (Or.inl ne490)) (Or.inl ne490)) (Or.inl ne490)) (Or.inl ne490)) (Or.inl ne490)) (Or.inl ne490)) (Or.inl ne490))
    obtain ⟨T712, X712, e712, st712⟩ := getF X709 hx hZ hown (host := "") (Or.inl (own_w hw 41 rfl)) Via.refl e709 F711 (g := (mkF m 146 #[.val (.ref a), .val (.ref b), .val (.ref b441), .unset, .unset, .unset] [(.ref a), (.ref b441)])) rfl rfl (hb hby own_d_prog_17_41_146)
    refine own_st (fun u_ k_ => st712 u_ k_) ?_
    show own_Go p e below _ (T712.setTop (mkF m 149 #[.val (.ref a), .val (.ref b), .val (.ref b441), .unset, .unset, .unset] [(.ref wl), (.ref b441)]))
    have O714 : Old Z n0 h709 := O706.wr W709 g448
    have F715 := Exa.ext O714.2 hS.2.2.2.2.2.2.2.2.2.2.2.1
    obtain ⟨T713, v713, L713, X713, hQ713, st713⟩ := own_callI X712 hx hZ (y := own_y_919) (z := own_y_662) hown (own_w hw 236 rfl) (own_w hw 237 rfl) (mvT hZ (own_w hw 238 rfl)) (own_w hw 239 rfl) (own_w hw 240 rfl) (own_w hw 241 rfl) (own_w hw 242 rfl) (own_w hw 243 rfl) (own_w hw 244 rfl) (own_w hw 245 rfl) own_lm_132 (rmLE l Z a0 hw [] w0 w1 w2 w3 wl wle wd mAL mUL mUR mOA wcs kle kd hS  h709 n0 O714 ) e712 F715 own_pd_230 (argsL := []) (rest := [(.ref b441)]) rfl rfl (g := (mkF m 149 #[.val (.ref a), .val (.ref b), .val (.ref b441), .unset, .unset, .unset] [(.ref wl), (.ref b441)])) rfl (by rw [hml]; rfl) rfl (hb hby own_d_prog_17_41_149) (W := 1) rfl (by decide) (by decide) (by decide) (by decide)
    obtain ⟨rfl, M713, e713⟩ := hQ713
    have N713 := Fr.app N709 M713
    refine own_st (fun u_ k_ => st713 u_ k_) ?_
    show own_Go p e below _ (T713.setTop (mkF m 154 #[.val (.ref a), .val (.ref b), .val (.ref b441), .unset, .unset, .unset] [(.int (1 : Int32)), (.ref b441)]))
    refine own_st (fun u_ k_ => XS.ifNo X713.here hx rfl (hb hby own_d_prog_17_41_154) rfl (XT.i0_eq_f (by decide)) k_) ?_
    refine own_st (fun u_ k_ => XS.aloadN X713.here hx rfl (hb hby own_d_prog_17_41_157) rfl rfl k_) ?_
    show own_Go p e below _ (T713.setTop (mkF m 158 #[.val (.ref a), .val (.ref b), .val (.ref b441), .unset, .unset, .unset] [(.ref b), (.ref b441)]))
    have F716 := (Fld.other W709 (Fld.other W699 (Fld.other W689 (Fld.other W536 (Fld.other W526 (Fld.other W511 (Fld.other W505 (Fld.other W499 (Fld.other W493 ((Fld.ext E441 D2).keep K449 (ninS ne515 nin0)) (Or.inl ne515)) (Or.inl ne515)) (Or.inl ne515)) (Or.inl ne515)) (Or.inl ne515)) (Or.inl ne515)) (Or.inl ne515)) (Or.inl ne515)) (Or.inl ne515))
    obtain ⟨T717, X717, e717, st717⟩ := getF X713 hx hZ hown (host := "") (Or.inl (own_w hw 41 rfl)) Via.refl e713 F716 (g := (mkF m 158 #[.val (.ref a), .val (.ref b), .val (.ref b441), .unset, .unset, .unset] [(.ref b), (.ref b441)])) rfl rfl (hb hby own_d_prog_17_41_158)
    refine own_st (fun u_ k_ => st717 u_ k_) ?_
    show own_Go p e below _ (T717.setTop (mkF m 161 #[.val (.ref a), .val (.ref b), .val (.ref b441), .unset, .unset, .unset] [(.ref wl), (.ref b441)]))
    refine own_st (fun u_ k_ => XS.goto X717.here hx rfl (pc0 := 161) (pc' := 168) rfl (hb hby own_d_prog_17_41_161) (by decide) (by decide) k_) ?_
    have F718 := (Exa.wr W709 F707)
    have F719 := (Fld.other W709 (Fld.other W699 (Fld.other W689 (Fld.other W536 (Fld.other W526 (Fld.other W511 (Fld.other W505 (Fld.other W499 (Fld.other W493 F461 (Or.inr (own_sn_926 hw))) (Or.inr (own_sn_928 hw))) (Or.inr (own_sn_930 hw))) (Or.inr (own_sn_246 hw))) (Or.inr (own_sn_932 hw))) (Or.inr (own_sn_934 hw))) (Or.inr (own_sn_620 hw))) (Or.inr (own_sn_936 hw))) (Or.inr (own_sn_938 hw)))
    obtain ⟨T720, h720, X720, e720, W720, st720⟩ := putF X717 hx hZ hown (host := "") (Or.inl (own_w hw 41 rfl)) Via.refl e717 F719 F718 (Or.inl (own_w hw 42 rfl)) (own_w hw 27 rfl) (ty := (.object "java/util/List")) own_lm_104 rfl rfl (g := (mkF m 168 #[.val (.ref a), .val (.ref b), .val (.ref b441), .unset, .unset, .unset] [(.ref wl), (.ref b441)])) rfl rfl (hb hby own_d_prog_17_41_168)
    have N720 := Fr.snoc X720 N713 g448
    have F721 : Fld Z h720 b441 own_c_235 "dependsOn" "Ljava/util/List;" (.ref wl) := Fld.same W720 F719
    refine own_st (fun u_ k_ => st720 u_ k_) ?_
    show own_Go p e below _ (T720.setTop (mkF m 171 #[.val (.ref a), .val (.ref b), .val (.ref b441), .unset, .unset, .unset] []))
    refine own_st (fun u_ k_ => XS.aloadN X720.here hx rfl (hb hby own_d_prog_17_41_171) rfl rfl k_) ?_
    have F722 := (Fld.other W720 (Fld.other W709 (Fld.other W699 (Fld.other W689 (Fld.other W536 (Fld.other W526 (Fld.other W511 (Fld.other W505 (Fld.other W499 (Fld.other W493 F462 (Or.inr (own_sn_942 hw))) (Or.inr (own_sn_944 hw))) (Or.inr (own_sn_946 hw))) (Or.inr (own_sn_254 hw))) (Or.inr (own_sn_948 hw))) (Or.inr (own_sn_950 hw))) (Or.inr (own_sn_622 hw))) (Or.inr (own_sn_952 hw))) (Or.inr (own_sn_954 hw))) (Or.inr (own_sn_256 hw)))
    obtain ⟨T723, X723, e723, st723⟩ := getF X720 hx hZ hown (host := "") (Or.inl (own_w hw 67 rfl)) Via.refl e720 F722 (g := (mkF m 172 #[.val (.ref a), .val (.ref b), .val (.ref b441), .unset, .unset, .unset] [(.ref b441)])) rfl rfl (hb hby own_d_prog_17_41_172)
    refine own_st (fun u_ k_ => st723 u_ k_) ?_
    show own_Go p e below _ (T723.setTop (mkF m 175 #[.val (.ref a), .val (.ref b), .val (.ref b441), .unset, .unset, .unset] [(.ref ca_450)]))
    refine own_st (fun u_ k_ => XS.aloadN X723.here hx rfl (hb hby own_d_prog_17_41_175) rfl rfl k_) ?_
    have F724 := (Fld.other W720 (Fld.other W709 (Fld.other W699 (Fld.other W689 (Fld.other W536 (Fld.other W526 (Fld.other W511 (Fld.other W505 (Fld.other W499 (Fld.other W493 ((Fld.ext E441 B3).keep K449 (ninS ne490 nin0)) (Or.inl ne490)) (Or.inl ne490)) (Or.inl ne490)) (Or.inl ne490)) (Or.inl ne490)) (Or.inl ne490)) (Or.inl ne490)) (Or.inl ne490)) (Or.inl ne490)) (Or.inl ne490))
    obtain ⟨T725, X725, e725, st725⟩ := getF X723 hx hZ hown (host := "") (Or.inl (own_w hw 67 rfl)) Via.refl e723 F724 (g := (mkF m 176 #[.val (.ref a), .val (.ref b), .val (.ref b441), .unset, .unset, .unset] [(.ref a), (.ref ca_450)])) rfl rfl (hb hby own_d_prog_17_41_176)
    refine own_st (fun u_ k_ => st725 u_ k_) ?_
    show own_Go p e below _ (T725.setTop (mkF m 179 #[.val (.ref a), .val (.ref b), .val (.ref b441), .unset, .unset, .unset] [(.ref ca), (.ref ca_450)]))
    have ne726 : ca ≠ b441 := (Nat.ne_of_lt (Nat.lt_of_lt_of_le L0.lt (Nat.le_of_eq g441.symm)))
    have F727 := (Fld.other W720 (Fld.other W709 (Fld.other W699 (Fld.other W689 (Fld.other W536 (Fld.other W526 (Fld.other W511 (Fld.other W505 (Fld.other W499 (Fld.other W493 ((Fld.ext E441 L2).keep K449 (ninS ne726 nin0)) (Or.inl ne726)) (Or.inl ne726)) (Or.inl ne726)) (Or.inl ne726)) (Or.inl ne726)) (Or.inl ne726)) (Or.inl ne726)) (Or.inl ne726)) (Or.inl ne726)) (Or.inl ne726))
    have O729 : Old Z n0 h720 := O714.wr W720 g448
    have F730 := (Exa.wr W720 (Exa.wr W709 (Exa.wr W699 (Exa.wr W689 (Exa.wr W536 (Exa.wr W526 (Exa.wr W511 (Exa.wr W505 (Exa.wr W499 (Exa.wr W493 ((Exa.ext E441 L0).keep K449)))))))))))
    obtain ⟨T728, v728, L728, X728, hQ728, st728⟩ := own_callI X725 hx hZ (y := own_y_919) (z := own_y_670) hown (own_w hw 236 rfl) (own_w hw 237 rfl) (mvT hZ (own_w hw 238 rfl)) (own_w hw 248 rfl) (own_w hw 249 rfl) (own_w hw 250 rfl) (own_w hw 251 rfl) (own_w hw 80 rfl) (own_w hw 45 rfl) (own_w hw 252 rfl) own_lm_132 (rmAE l Z a0 hw [] w0 w1 w2 w3 wl wle wd mAL mUL mUR mOA wcs kle kd hS ca h720 n0 O729 F727) e725 F730 own_pd_230 (argsL := []) (rest := [(.ref ca_450)]) rfl rfl (g := (mkF m 179 #[.val (.ref a), .val (.ref b), .val (.ref b441), .unset, .unset, .unset] [(.ref ca), (.ref ca_450)])) rfl (by rw [hml]; rfl) rfl (hb hby own_d_prog_17_41_179) (W := 1) rfl (by decide) (by decide) (by decide) (by decide)
    obtain ⟨rfl, M728, e728⟩ := hQ728
    have N728 := Fr.app N720 M728
    refine own_st (fun u_ k_ => st728 u_ k_) ?_
    show own_Go p e below _ (T728.setTop (mkF m 184 #[.val (.ref a), .val (.ref b), .val (.ref b441), .unset, .unset, .unset] [(.int (1 : Int32)), (.ref ca_450)]))
    refine own_st (fun u_ k_ => XS.ifNo X728.here hx rfl (hb hby own_d_prog_17_41_184) rfl (XT.i0_eq_f (by decide)) k_) ?_
    refine own_st (fun u_ k_ => XS.aloadN X728.here hx rfl (hb hby own_d_prog_17_41_187) rfl rfl k_) ?_
    show own_Go p e below _ (T728.setTop (mkF m 188 #[.val (.ref a), .val (.ref b), .val (.ref b441), .unset, .unset, .unset] [(.ref b), (.ref ca_450)]))
    have F731 := (Fld.other W720 (Fld.other W709 (Fld.other W699 (Fld.other W689 (Fld.other W536 (Fld.other W526 (Fld.other W511 (Fld.other W505 (Fld.other W499 (Fld.other W493 ((Fld.ext E441 D3).keep K449 (ninS ne515 nin0)) (Or.inl ne515)) (Or.inl ne515)) (Or.inl ne515)) (Or.inl ne515)) (Or.inl ne515)) (Or.inl ne515)) (Or.inl ne515)) (Or.inl ne515)) (Or.inl ne515)) (Or.inl ne515))
    obtain ⟨T732, X732, e732, st732⟩ := getF X728 hx hZ hown (host := "") (Or.inl (own_w hw 67 rfl)) Via.refl e728 F731 (g := (mkF m 188 #[.val (.ref a), .val (.ref b), .val (.ref b441), .unset, .unset, .unset] [(.ref b), (.ref ca_450)])) rfl rfl (hb hby own_d_prog_17_41_188)
    refine own_st (fun u_ k_ => st732 u_ k_) ?_
    show own_Go p e below _ (T732.setTop (mkF m 191 #[.val (.ref a), .val (.ref b), .val (.ref b441), .unset, .unset, .unset] [(.ref ca2), (.ref ca_450)]))
    refine own_st (fun u_ k_ => XS.goto X732.here hx rfl (pc0 := 191) (pc' := 198) rfl (hb hby own_d_prog_17_41_191) (by decide) (by decide) k_) ?_
    have F733 := (Exa.wr W720 (Exa.wr W709 (Exa.wr W699 (Exa.wr W689 (Exa.wr W536 (Exa.wr W526 (Exa.wr W511 (Exa.wr W505 (Exa.wr W499 (Exa.wr W493 F477))))))))))
    have g734 : n0 ≤ ca_450 := Nat.le_trans (own_nl O447) z455
    have ne735 : ca_450 ≠ b441 := (Ne.symm (Nat.ne_of_lt (Nat.lt_of_lt_of_le F441_constructorArgumentsView.lt z455)))
    have F736 := (Fld.other W720 (Fld.other W709 (Fld.other W699 (Fld.other W689 (Fld.other W536 (Fld.other W526 (Fld.other W511 (Fld.other W505 (Fld.other W499 (Fld.other W493 F478 (Or.inl ne735)) (Or.inl ne735)) (Or.inl ne735)) (Or.inl ne735)) (Or.inl ne735)) (Or.inl ne735)) (Or.inl ne735)) (Or.inl ne735)) (Or.inl ne735)) (Or.inl ne735))
    have F737 := (Exa.wr W720 (Exa.wr W709 (Exa.wr W699 (Exa.wr W689 (Exa.wr W536 (Exa.wr W526 (Exa.wr W511 (Exa.wr W505 (Exa.wr W499 (Exa.wr W493 ((Exa.ext E441 L2_0).keep K449)))))))))))
    have ne738 : ca2 ≠ b441 := (Nat.ne_of_lt (Nat.lt_of_lt_of_le L2_0.lt (Nat.le_of_eq g441.symm)))
    have F739 := (Fld.other W720 (Fld.other W709 (Fld.other W699 (Fld.other W689 (Fld.other W536 (Fld.other W526 (Fld.other W511 (Fld.other W505 (Fld.other W499 (Fld.other W493 ((Fld.ext E441 L2_2).keep K449 (ninS ne738 nin0)) (Or.inl ne738)) (Or.inl ne738)) (Or.inl ne738)) (Or.inl ne738)) (Or.inl ne738)) (Or.inl ne738)) (Or.inl ne738)) (Or.inl ne738)) (Or.inl ne738)) (Or.inl ne738))
    have F740 := (Fld.other W720 (Fld.other W709 (Fld.other W699 (Fld.other W689 (Fld.other W536 (Fld.other W526 (Fld.other W511 (Fld.other W505 (Fld.other W499 (Fld.other W493 ((Fld.ext E441 L2_3).keep K449 (ninS ne738 nin0)) (Or.inl ne738)) (Or.inl ne738)) (Or.inl ne738)) (Or.inl ne738)) (Or.inl ne738)) (Or.inl ne738)) (Or.inl ne738)) (Or.inl ne738)) (Or.inl ne738)) (Or.inl ne738))
    obtain ⟨T741, v741, L741, X741, hQ741, st741⟩ := own_callI X732 hx hZ (y := own_y_963) (z := own_y_736) hown (own_w hw 255 rfl) (own_w hw 256 rfl) (mvT hZ (own_w hw 257 rfl)) (own_w hw 258 rfl) (own_w hw 259 rfl) (own_w hw 260 rfl) (own_w hw 261 rfl) (own_w hw 80 rfl) (own_w hw 45 rfl) (own_w hw 262 rfl) own_lm_132 (rmAA l Z a0 hw [] w0 w1 w2 w3 wl wle wd mAL mUL mUR mOA wcs kle kd hS ca_450 ca2 h720 n0 O729 F733 g734 F736 F737 F739 F740) e732 F733 own_pd_964 (argsL := [(.ref ca2)]) (rest := []) rfl rfl (g := (mkF m 198 #[.val (.ref a), .val (.ref b), .val (.ref b441), .unset, .unset, .unset] [(.ref ca2), (.ref ca_450)])) rfl (by rw [hml]; rfl) rfl (hb hby own_d_prog_17_41_198) (W := 0) rfl (by decide) (by decide) (by decide) (by decide)
    obtain ⟨rfl, M741, K741, F742⟩ := hQ741
    have N741 := Fr.app N728 M741
    refine own_st (fun u_ k_ => st741 u_ k_) ?_
    show own_Go p e below _ (T741.setTop (mkF m 203 #[.val (.ref a), .val (.ref b), .val (.ref b441), .unset, .unset, .unset] [(.int (0 : Int32))]))
    refine own_st (fun u_ k_ => XS.pop X741.here hx rfl (hb hby own_d_prog_17_41_203) rfl rfl k_) ?_
    refine own_st (fun u_ k_ => XS.aloadN X741.here hx rfl (hb hby own_d_prog_17_41_204) rfl rfl k_) ?_
    show own_Go p e below _ (T741.setTop (mkF m 205 #[.val (.ref a), .val (.ref b), .val (.ref b441), .unset, .unset, .unset] [(.ref b441)]))
    have F743 := ((Fld.other W720 (Fld.other W709 (Fld.other W699 (Fld.other W689 (Fld.other W536 (Fld.other W526 (Fld.other W511 (Fld.other W505 (Fld.other W499 (Fld.other W493 F463 (Or.inr (own_sn_969 hw))) (Or.inr (own_sn_971 hw))) (Or.inr (own_sn_973 hw))) (Or.inr (own_sn_276 hw))) (Or.inr (own_sn_975 hw))) (Or.inr (own_sn_977 hw))) (Or.inr (own_sn_624 hw))) (Or.inr (own_sn_979 hw))) (Or.inr (own_sn_981 hw))) (Or.inr (own_sn_278 hw))).keep K741 (ninS (Ne.symm ne735) nin0))
    obtain ⟨T744, X744, e744, st744⟩ := getF X741 hx hZ hown (host := "") (Or.inl (own_w hw 114 rfl)) Via.refl rfl F743 (g := (mkF m 205 #[.val (.ref a), .val (.ref b), .val (.ref b441), .unset, .unset, .unset] [(.ref b441)])) rfl rfl (hb hby own_d_prog_17_41_205)
    refine own_st (fun u_ k_ => st744 u_ k_) ?_
    show own_Go p e below _ (T744.setTop (mkF m 208 #[.val (.ref a), .val (.ref b), .val (.ref b441), .unset, .unset, .unset] [(.ref pv_451)]))
    refine own_st (fun u_ k_ => XS.aloadN X744.here hx rfl (hb hby own_d_prog_17_41_208) rfl rfl k_) ?_
    have ne745 : b ≠ ca_450 := (Nat.ne_of_lt (Nat.lt_of_lt_of_le F444.lt z455))
    have F746 := ((Fld.other W720 (Fld.other W709 (Fld.other W699 (Fld.other W689 (Fld.other W536 (Fld.other W526 (Fld.other W511 (Fld.other W505 (Fld.other W499 (Fld.other W493 ((Fld.ext E441 D4).keep K449 (ninS ne515 nin0)) (Or.inl ne515)) (Or.inl ne515)) (Or.inl ne515)) (Or.inl ne515)) (Or.inl ne515)) (Or.inl ne515)) (Or.inl ne515)) (Or.inl ne515)) (Or.inl ne515)) (Or.inl ne515)).keep K741 (ninS ne745 nin0))
    obtain ⟨T747, X747, e747, st747⟩ := getF X744 hx hZ hown (host := "") (Or.inl (own_w hw 114 rfl)) Via.refl e744 F746 (g := (mkF m 209 #[.val (.ref a), .val (.ref b), .val (.ref b441), .unset, .unset, .unset] [(.ref b), (.ref pv_451)])) rfl rfl (hb hby own_d_prog_17_41_209)
    refine own_st (fun u_ k_ => st747 u_ k_) ?_
    show own_Go p e below _ (T747.setTop (mkF m 212 #[.val (.ref a), .val (.ref b), .val (.ref b441), .unset, .unset, .unset] [(.ref pv2), (.ref pv_451)]))
    have F748 := ((Exa.wr W720 (Exa.wr W709 (Exa.wr W699 (Exa.wr W689 (Exa.wr W536 (Exa.wr W526 (Exa.wr W511 (Exa.wr W505 (Exa.wr W499 (Exa.wr W493 F481)))))))))).keep K741)
    have g749 : n0 ≤ pv_451 := Nat.le_trans (own_nl O447) z456
    have ne750 : pv_451 ≠ b441 := (Ne.symm (Nat.ne_of_lt (Nat.lt_of_lt_of_le F441_constructorArgumentsView.lt z456)))
    have F751 := ((Fld.other W720 (Fld.other W709 (Fld.other W699 (Fld.other W689 (Fld.other W536 (Fld.other W526 (Fld.other W511 (Fld.other W505 (Fld.other W499 (Fld.other W493 F482 (Or.inl ne750)) (Or.inl ne750)) (Or.inl ne750)) (Or.inl ne750)) (Or.inl ne750)) (Or.inl ne750)) (Or.inl ne750)) (Or.inl ne750)) (Or.inl ne750)) (Or.inl ne750)).keep K741 (ninS (Ne.symm ne_489) nin0))
    have F752 := ((Exa.wr W720 (Exa.wr W709 (Exa.wr W699 (Exa.wr W689 (Exa.wr W536 (Exa.wr W526 (Exa.wr W511 (Exa.wr W505 (Exa.wr W499 (Exa.wr W493 ((Exa.ext E441 M2_0).keep K449))))))))))).keep K741)
    have ne753 : pv2 ≠ b441 := (Nat.ne_of_lt (Nat.lt_of_lt_of_le M2_0.lt (Nat.le_of_eq g441.symm)))
    have ne754 : pv2 ≠ ca_450 := (Nat.ne_of_lt (Nat.lt_of_lt_of_le (Nat.lt_of_lt_of_le M2_0.lt E441.1) z455))
    have F755 := ((Fld.other W720 (Fld.other W709 (Fld.other W699 (Fld.other W689 (Fld.other W536 (Fld.other W526 (Fld.other W511 (Fld.other W505 (Fld.other W499 (Fld.other W493 ((Fld.ext E441 M2_2).keep K449 (ninS ne753 nin0)) (Or.inl ne753)) (Or.inl ne753)) (Or.inl ne753)) (Or.inl ne753)) (Or.inl ne753)) (Or.inl ne753)) (Or.inl ne753)) (Or.inl ne753)) (Or.inl ne753)) (Or.inl ne753)).keep K741 (ninS ne754 nin0))
    have F756 := ((Fld.other W720 (Fld.other W709 (Fld.other W699 (Fld.other W689 (Fld.other W536 (Fld.other W526 (Fld.other W511 (Fld.other W505 (Fld.other W499 (Fld.other W493 ((Fld.ext E441 M2_3).keep K449 (ninS ne753 nin0)) (Or.inl ne753)) (Or.inl ne753)) (Or.inl ne753)) (Or.inl ne753)) (Or.inl ne753)) (Or.inl ne753)) (Or.inl ne753)) (Or.inl ne753)) (Or.inl ne753)) (Or.inl ne753)).keep K741 (ninS ne754 nin0))
    have O758 : Old Z n0 T741.heap := O729.keep K741 (allS g734 all0)
    obtain ⟨T757, v757, L757, X757, hQ757, st757⟩ := own_callI X747 hx hZ (y := own_y_963) (z := own_y_736) hown (own_w hw 255 rfl) (own_w hw 256 rfl) (mvT hZ (own_w hw 257 rfl)) (own_w hw 258 rfl) (own_w hw 259 rfl) (own_w hw 260 rfl) (own_w hw 261 rfl) (own_w hw 80 rfl) (own_w hw 45 rfl) (own_w hw 262 rfl) own_lm_132 (rmAA l Z a0 hw [] w0 w1 w2 w3 wl wle wd mAL mUL mUR mOA wcs kle kd hS pv_451 pv2 T741.heap n0 O758 F748 g749 F751 F752 F755 F756) e747 F748 own_pd_964 (argsL := [(.ref pv2)]) (rest := []) rfl rfl (g := (mkF m 212 #[.val (.ref a), .val (.ref b), .val (.ref b441), .unset, .unset, .unset] [(.ref pv2), (.ref pv_451)])) rfl (by rw [hml]; rfl) rfl (hb hby own_d_prog_17_41_212) (W := 0) rfl (by decide) (by decide) (by decide) (by decide)
    obtain ⟨rfl, M757, K757, F759⟩ := hQ757
    have N757 := Fr.app N741 M757
    refine own_st (fun u_ k_ => st757 u_ k_) ?_
    show own_Go p e below _ (T757.setTop (mkF m 217 #[.val (.ref a), .val (.ref b), .val (.ref b441), .unset, .unset, .unset] [(.int (0 : Int32))]))
    refine own_st (fun u_ k_ => XS.pop X757.here hx rfl (hb hby own_d_prog_17_41_217) rfl rfl k_) ?_
    refine own_st (fun u_ k_ => XS.aloadN X757.here hx rfl (hb hby own_d_prog_17_41_218) rfl rfl k_) ?_
    show own_Go p e below _ (T757.setTop (mkF m 219 #[.val (.ref a), .val (.ref b), .val (.ref b441), .unset, .unset, .unset] [(.ref a)]))
    have ne760 : a ≠ ca_450 := (Nat.ne_of_lt (Nat.lt_of_lt_of_le F442.lt z455))
    have ne761 : a ≠ pv_451 := (Nat.ne_of_lt (Nat.lt_of_lt_of_le F442.lt z456))
    have F762 := (((Fld.other W720 (Fld.other W709 (Fld.other W699 (Fld.other W689 (Fld.other W536 (Fld.other W526 (Fld.other W511 (Fld.other W505 (Fld.other W499 (Fld.other W493 ((Fld.ext E441 B4).keep K449 (ninS ne490 nin0)) (Or.inl ne490)) (Or.inl ne490)) (Or.inl ne490)) (Or.inl ne490)) (Or.inl ne490)) (Or.inl ne490)) (Or.inl ne490)) (Or.inl ne490)) (Or.inl ne490)) (Or.inl ne490)).keep K741 (ninS ne760 nin0)).keep K757 (ninS ne761 nin0))
    obtain ⟨T763, X763, e763, st763⟩ := getF X757 hx hZ hown (host := "") (Or.inl (own_w hw 114 rfl)) Via.refl rfl F762 (g := (mkF m 219 #[.val (.ref a), .val (.ref b), .val (.ref b441), .unset, .unset, .unset] [(.ref a)])) rfl rfl (hb hby own_d_prog_17_41_219)
    refine own_st (fun u_ k_ => st763 u_ k_) ?_
    show own_Go p e below _ (T763.setTop (mkF m 222 #[.val (.ref a), .val (.ref b), .val (.ref b441), .unset, .unset, .unset] [(.ref pv)]))
    have F764 := (((Exa.wr W720 (Exa.wr W709 (Exa.wr W699 (Exa.wr W689 (Exa.wr W536 (Exa.wr W526 (Exa.wr W511 (Exa.wr W505 (Exa.wr W499 (Exa.wr W493 ((Exa.ext E441 M0).keep K449))))))))))).keep K741).keep K757)
    have ne765 : pv ≠ b441 := (Nat.ne_of_lt (Nat.lt_of_lt_of_le M0.lt (Nat.le_of_eq g441.symm)))
    have ne766 : pv ≠ ca_450 := (Nat.ne_of_lt (Nat.lt_of_lt_of_le (Nat.lt_of_lt_of_le M0.lt E441.1) z455))
    have ne767 : pv ≠ pv_451 := (Nat.ne_of_lt (Nat.lt_of_lt_of_le (Nat.lt_of_lt_of_le M0.lt E441.1) z456))
    have F768 := (((Fld.other W720 (Fld.other W709 (Fld.other W699 (Fld.other W689 (Fld.other W536 (Fld.other W526 (Fld.other W511 (Fld.other W505 (Fld.other W499 (Fld.other W493 ((Fld.ext E441 M1).keep K449 (ninS ne765 nin0)) (Or.inl ne765)) (Or.inl ne765)) (Or.inl ne765)) (Or.inl ne765)) (Or.inl ne765)) (Or.inl ne765)) (Or.inl ne765)) (Or.inl ne765)) (Or.inl ne765)) (Or.inl ne765)).keep K741 (ninS ne766 nin0)).keep K757 (ninS ne767 nin0))
    have O770 : Old Z n0 T757.heap := O758.keep K757 (allS g749 all0)
    obtain ⟨T769, v769, L769, X769, hQ769, st769⟩ := own_callI X763 hx hZ (y := own_y_223) (z := own_y_779) hown (own_w hw 171 rfl) (own_w hw 172 rfl) (mvT hZ (own_w hw 173 rfl)) (own_w hw 294 rfl) (own_w hw 295 rfl) (own_w hw 296 rfl) (own_w hw 297 rfl) (own_w hw 80 rfl) (own_w hw 45 rfl) (own_w hw 298 rfl) own_lm_132 (rmAI l Z a0 hw [] w0 w1 w2 w3 wl wle wd mAL mUL mUR mOA wcs kle kd hS pv T757.heap n0 O770 F764 F768) e763 F764 own_pd_224 (argsL := []) (rest := []) rfl rfl (g := (mkF m 222 #[.val (.ref a), .val (.ref b), .val (.ref b441), .unset, .unset, .unset] [(.ref pv)])) rfl (by rw [hml]; rfl) rfl (hb hby own_d_prog_17_41_222) (W := 0) rfl (by decide) (by decide) (by decide) (by decide)
    obtain ⟨r_771, rfl, M769, K769, z772, F773, F774, F775⟩ := hQ769
    have N769 := Fr.app N757 M769
    refine own_st (fun u_ k_ => st769 u_ k_) ?_
    show own_Go p e below _ (T769.setTop (mkF m 227 #[.val (.ref a), .val (.ref b), .val (.ref b441), .unset, .unset, .unset] [(.ref r_771)]))
    refine own_st (fun u_ k_ => XS.astoreN X769.here hx rfl (hb hby own_d_prog_17_41_227) rfl rfl (l' := #[.val (.ref a), .val (.ref b), .val (.ref b441), .val (.ref r_771), .unset, .unset]) rfl k_) ?_
    refine own_st (fun u_ k_ => XS.aloadN X769.here hx rfl (hb hby own_d_prog_17_41_228) rfl rfl k_) ?_
    show own_Go p e below _ (T769.setTop (mkF m 229 #[.val (.ref a), .val (.ref b), .val (.ref b441), .val (.ref r_771), .unset, .unset] [(.ref r_771)]))
    have F776 := ((((Fld.other W720 (Fld.other W709 (Fld.other W699 (Fld.other W689 (Fld.other W536 (Fld.other W526 (Fld.other W511 (Fld.other W505 (Fld.other W499 (Fld.other W493 ((Fld.ext E441 M2).keep K449 (ninS ne765 nin0)) (Or.inl ne765)) (Or.inl ne765)) (Or.inl ne765)) (Or.inl ne765)) (Or.inl ne765)) (Or.inl ne765)) (Or.inl ne765)) (Or.inl ne765)) (Or.inl ne765)) (Or.inl ne765)).keep K741 (ninS ne766 nin0)).keep K757 (ninS ne767 nin0)).keep K769 nin0)
    have O778 : Old Z n0 T769.heap := O770.keep K769 all0
    obtain ⟨T777, v777, L777, X777, hQ777, st777⟩ := own_callI X769 hx hZ (y := own_y_228) (z := own_y_788) hown (own_w hw 197 rfl) (own_w hw 198 rfl) (mvT hZ (own_w hw 199 rfl)) (own_w hw 314 rfl) (own_w hw 315 rfl) (own_w hw 316 rfl) (own_w hw 317 rfl) (own_w hw 318 rfl) (own_w hw 301 rfl) (own_w hw 319 rfl) own_lm_229 (rmIH l Z a0 hw [] w0 w1 w2 w3 wl wle wd mAL mUL mUR mOA wcs kle kd hS r_771 pv T769.heap n0 O778 F774 F775 F776) rfl F773 own_pd_230 (argsL := []) (rest := []) rfl rfl (g := (mkF m 229 #[.val (.ref a), .val (.ref b), .val (.ref b441), .val (.ref r_771), .unset, .unset] [(.ref r_771)])) rfl (by rw [hml]; rfl) rfl (hb hby own_d_prog_17_41_229) (W := 0) rfl (by decide) (by decide) (by decide) (by decide)
    obtain ⟨rfl, M777, e777⟩ := hQ777
    have N777 := Fr.app N769 M777
    refine own_st (fun u_ k_ => st777 u_ k_) ?_
    show own_Go p e below _ (T777.setTop (mkF m 234 #[.val (.ref a), .val (.ref b), .val (.ref b441), .val (.ref r_771), .unset, .unset] [(.int (0 : Int32))]))
    refine own_st (fun u_ k_ => XS.ifYes X777.here hx rfl (pc0 := 234) (pc' := 294) rfl (hb hby own_d_prog_17_41_234) rfl (XT.i0_eq_t (by decide)) (by decide) (by decide) k_) ?_
    refine own_st (fun u_ k_ => XS.aloadN X777.here hx rfl (hb hby own_d_prog_17_41_294) rfl rfl k_) ?_
    show own_Go p e below _ (T777.setTop (mkF m 295 #[.val (.ref a), .val (.ref b), .val (.ref b441), .val (.ref r_771), .unset, .unset] [(.ref b441)]))
    refine own_st (fun u_ k_ => XS.aloadN X777.here hx rfl (hb hby own_d_prog_17_41_295) rfl rfl k_) ?_
    have F779 := ((((Fld.other W720 (Fld.other W709 (Fld.other W699 (Fld.other W689 (Fld.other W536 (Fld.other W526 (Fld.other W511 (Fld.other W505 (Fld.other W499 (Fld.other W493 ((Fld.ext E441 B15).keep K449 (ninS ne490 nin0)) (Or.inl ne490)) (Or.inl ne490)) (Or.inl ne490)) (Or.inl ne490)) (Or.inl ne490)) (Or.inl ne490)) (Or.inl ne490)) (Or.inl ne490)) (Or.inl ne490)) (Or.inl ne490)).keep K741 (ninS ne760 nin0)).keep K757 (ninS ne761 nin0)).keep K769 nin0)
    obtain ⟨T780, X780, e780, st780⟩ := getF X777 hx hZ hown (host := "") (Or.inl (own_w hw 323 rfl)) Via.refl e777 F779 (g := (mkF m 296 #[.val (.ref a), .val (.ref b), .val (.ref b441), .val (.ref r_771), .unset, .unset] [(.ref a), (.ref b441)])) rfl rfl (hb hby own_d_prog_17_41_296)
    refine own_st (fun u_ k_ => st780 u_ k_) ?_
    show own_Go p e below _ (T780.setTop (mkF m 299 #[.val (.ref a), .val (.ref b), .val (.ref b441), .val (.ref r_771), .unset, .unset] [.null, (.ref b441)]))
    refine own_st (fun u_ k_ => XS.aloadN X780.here hx rfl (hb hby own_d_prog_17_41_299) rfl rfl k_) ?_
    have ne781 : b ≠ pv_451 := (Nat.ne_of_lt (Nat.lt_of_lt_of_le F444.lt z456))
    have F782 := ((((Fld.other W720 (Fld.other W709 (Fld.other W699 (Fld.other W689 (Fld.other W536 (Fld.other W526 (Fld.other W511 (Fld.other W505 (Fld.other W499 (Fld.other W493 ((Fld.ext E441 D15).keep K449 (ninS ne515 nin0)) (Or.inl ne515)) (Or.inl ne515)) (Or.inl ne515)) (Or.inl ne515)) (Or.inl ne515)) (Or.inl ne515)) (Or.inl ne515)) (Or.inl ne515)) (Or.inl ne515)) (Or.inl ne515)).keep K741 (ninS ne745 nin0)).keep K757 (ninS ne781 nin0)).keep K769 nin0)
    obtain ⟨T783, X783, e783, st783⟩ := getF X780 hx hZ hown (host := "") (Or.inl (own_w hw 323 rfl)) Via.refl e780 F782 (g := (mkF m 300 #[.val (.ref a), .val (.ref b), .val (.ref b441), .val (.ref r_771), .unset, .unset] [(.ref b), .null, (.ref b441)])) rfl rfl (hb hby own_d_prog_17_41_300)
    refine own_st (fun u_ k_ => st783 u_ k_) ?_
    show own_Go p e below _ (T783.setTop (mkF m 303 #[.val (.ref a), .val (.ref b), .val (.ref b441), .val (.ref r_771), .unset, .unset] [.null, .null, (.ref b441)]))
    obtain ⟨T784, v784, L784, X784, hQ784, st784⟩ := own_callS X783 hx hZ (y := own_y_652) hown (own_w hw 215 rfl) (own_w hw 216 rfl) (own_w hw 28 rfl) (own_w hw 217 rfl) own_lm_615 (rmEN l Z a0 hw [] w0 w1 w2 w3 wl wle wd mAL mUL mUR mOA wcs kle kd hS  T769.heap n0 O778 ) e783 own_pd_796 (argsL := [.null, .null]) (rest := [(.ref b441)]) rfl rfl (g := (mkF m 303 #[.val (.ref a), .val (.ref b), .val (.ref b441), .val (.ref r_771), .unset, .unset] [.null, .null, (.ref b441)])) rfl (by rw [hml]; rfl) rfl (hb hby own_d_prog_17_41_303) (W := 1) rfl (by decide) (by decide) (by decide) (by decide)
    obtain ⟨rfl, M784, e784⟩ := hQ784
    have N784 := Fr.app N777 M784
    refine own_st (fun u_ k_ => st784 u_ k_) ?_
    show own_Go p e below _ (T784.setTop (mkF m 306 #[.val (.ref a), .val (.ref b), .val (.ref b441), .val (.ref r_771), .unset, .unset] [.null, (.ref b441)]))
    refine own_st (X784.checkcastNull hx (g := (mkF m 306 #[.val (.ref a), .val (.ref b), .val (.ref b441), .val (.ref r_771), .unset, .unset] [.null, (.ref b441)])) rfl rfl (hb hby own_d_prog_17_41_306)) ?_
    show own_Go p e below _ (T784.setTop (mkF m 309 #[.val (.ref a), .val (.ref b), .val (.ref b441), .val (.ref r_771), .unset, .unset] [.null, (.ref b441)]))
    have F785 := ((((Exa.wr W720 F718).keep K741).keep K757).keep K769)
    have F786 := ((((Fld.other W720 (Fld.other W709 (Fld.other W699 (Fld.other W689 (Fld.other W536 (Fld.other W526 (Fld.other W511 (Fld.other W505 (Fld.other W499 (Fld.other W493 F474 (Or.inr (own_sn_1002 hw))) (Or.inr (own_sn_1004 hw))) (Or.inr (own_sn_1006 hw))) (Or.inr (own_sn_511 hw))) (Or.inr (own_sn_1008 hw))) (Or.inr (own_sn_1010 hw))) (Or.inr (own_sn_642 hw))) (Or.inr (own_sn_1012 hw))) (Or.inr (own_sn_1014 hw))) (Or.inr (own_sn_513 hw))).keep K741 (ninS (Ne.symm ne735) nin0)).keep K757 (ninS (Ne.symm ne750) nin0)).keep K769 nin0)
    obtain ⟨T787, h787, X787, e787, W787, st787⟩ := putF X784 hx hZ hown (host := "") (Or.inl (own_w hw 323 rfl)) Via.refl e784 F786 F785 (Or.inl (own_w hw 324 rfl)) (own_w hw 27 rfl) (ty := (.object "java/lang/String")) own_lm_319 rfl rfl (g := (mkF m 309 #[.val (.ref a), .val (.ref b), .val (.ref b441), .val (.ref r_771), .unset, .unset] [.null, (.ref b441)])) rfl rfl (hb hby own_d_prog_17_41_309)
    have N787 := Fr.snoc X787 N784 g448
    have F788 : Fld Z h787 b441 own_c_235 "initMethodName" "Ljava/lang/String;" .null := Fld.same W787 F786
    refine own_st (fun u_ k_ => st787 u_ k_) ?_
    show own_Go p e below _ (T787.setTop (mkF m 312 #[.val (.ref a), .val (.ref b), .val (.ref b441), .val (.ref r_771), .unset, .unset] []))
    refine own_st (fun u_ k_ => XS.aloadN X787.here hx rfl (hb hby own_d_prog_17_41_312) rfl rfl k_) ?_
    refine own_st (fun u_ k_ => XS.aloadN X787.here hx rfl (hb hby own_d_prog_17_41_313) rfl rfl k_) ?_
    show own_Go p e below _ (T787.setTop (mkF m 314 #[.val (.ref a), .val (.ref b), .val (.ref b441), .val (.ref r_771), .unset, .unset] [(.ref a), (.ref b441)]))
    have F789 := (Fld.other W787 ((((Fld.other W720 (Fld.other W709 (Fld.other W699 (Fld.other W689 (Fld.other W536 (Fld.other W526 (Fld.other W511 (Fld.other W505 (Fld.other W499 (Fld.other W493 ((Fld.ext E441 B16).keep K449 (ninS ne490 nin0)) (Or.inl ne490)) (Or.inl ne490)) (Or.inl ne490)) (Or.inl ne490)) (Or.inl ne490)) (Or.inl ne490)) (Or.inl ne490)) (Or.inl ne490)) (Or.inl ne490)) (Or.inl ne490)).keep K741 (ninS ne760 nin0)).keep K757 (ninS ne761 nin0)).keep K769 nin0) (Or.inl ne490))
    obtain ⟨T790, X790, e790, st790⟩ := getF X787 hx hZ hown (host := "") (Or.inl (own_w hw 325 rfl)) Via.refl e787 F789 (g := (mkF m 314 #[.val (.ref a), .val (.ref b), .val (.ref b441), .val (.ref r_771), .unset, .unset] [(.ref a), (.ref b441)])) rfl rfl (hb hby own_d_prog_17_41_314)
    refine own_st (fun u_ k_ => st790 u_ k_) ?_
    show own_Go p e below _ (T790.setTop (mkF m 317 #[.val (.ref a), .val (.ref b), .val (.ref b441), .val (.ref r_771), .unset, .unset] [.null, (.ref b441)]))
    refine own_st (fun u_ k_ => XS.aloadN X790.here hx rfl (hb hby own_d_prog_17_41_317) rfl rfl k_) ?_
    have F791 := (Fld.other W787 ((((Fld.other W720 (Fld.other W709 (Fld.other W699 (Fld.other W689 (Fld.other W536 (Fld.other W526 (Fld.other W511 (Fld.other W505 (Fld.other W499 (Fld.other W493 ((Fld.ext E441 D16).keep K449 (ninS ne515 nin0)) (Or.inl ne515)) (Or.inl ne515)) (Or.inl ne515)) (Or.inl ne515)) (Or.inl ne515)) (Or.inl ne515)) (Or.inl ne515)) (Or.inl ne515)) (Or.inl ne515)) (Or.inl ne515)).keep K741 (ninS ne745 nin0)).keep K757 (ninS ne781 nin0)).keep K769 nin0) (Or.inl ne515))
    obtain ⟨T792, X792, e792, st792⟩ := getF X790 hx hZ hown (host := "") (Or.inl (own_w hw 325 rfl)) Via.refl e790 F791 (g := (mkF m 318 #[.val (.ref a), .val (.ref b), .val (.ref b441), .val (.ref r_771), .unset, .unset] [(.ref b), .null, (.ref b441)])) rfl rfl (hb hby own_d_prog_17_41_318)
    refine own_st (fun u_ k_ => st792 u_ k_) ?_
    show own_Go p e below _ (T792.setTop (mkF m 321 #[.val (.ref a), .val (.ref b), .val (.ref b441), .val (.ref r_771), .unset, .unset] [.null, .null, (.ref b441)]))
    have O794 : Old Z n0 h787 := O778.wr W787 g448
    obtain ⟨T793, v793, L793, X793, hQ793, st793⟩ := own_callS X792 hx hZ (y := own_y_652) hown (own_w hw 215 rfl) (own_w hw 216 rfl) (own_w hw 28 rfl) (own_w hw 217 rfl) own_lm_615 (rmEN l Z a0 hw [] w0 w1 w2 w3 wl wle wd mAL mUL mUR mOA wcs kle kd hS  h787 n0 O794 ) e792 own_pd_796 (argsL := [.null, .null]) (rest := [(.ref b441)]) rfl rfl (g := (mkF m 321 #[.val (.ref a), .val (.ref b), .val (.ref b441), .val (.ref r_771), .unset, .unset] [.null, .null, (.ref b441)])) rfl (by rw [hml]; rfl) rfl (hb hby own_d_prog_17_41_321) (W := 1) rfl (by decide) (by decide) (by decide) (by decide)
    obtain ⟨rfl, M793, e793⟩ := hQ793
    have N793 := Fr.app N787 M793
    refine own_st (fun u_ k_ => st793 u_ k_) ?_
    show own_Go p e below _ (T793.setTop (mkF m 324 #[.val (.ref a), .val (.ref b), .val (.ref b441), .val (.ref r_771), .unset, .unset] [.null, (.ref b441)]))
    refine own_st (X793.checkcastNull hx (g := (mkF m 324 #[.val (.ref a), .val (.ref b), .val (.ref b441), .val (.ref r_771), .unset, .unset] [.null, (.ref b441)])) rfl rfl (hb hby own_d_prog_17_41_324)) ?_
    show own_Go p e below _ (T793.setTop (mkF m 327 #[.val (.ref a), .val (.ref b), .val (.ref b441), .val (.ref r_771), .unset, .unset] [.null, (.ref b441)]))
    have F795 := (Exa.wr W787 F785)
    have F796 := (Fld.other W787 ((((Fld.other W720 (Fld.other W709 (Fld.other W699 (Fld.other W689 (Fld.other W536 (Fld.other W526 (Fld.other W511 (Fld.other W505 (Fld.other W499 (Fld.other W493 F475 (Or.inr (own_sn_1024 hw))) (Or.inr (own_sn_1026 hw))) (Or.inr (own_sn_1028 hw))) (Or.inr (own_sn_527 hw))) (Or.inr (own_sn_1030 hw))) (Or.inr (own_sn_1032 hw))) (Or.inr (own_sn_644 hw))) (Or.inr (own_sn_1034 hw))) (Or.inr (own_sn_1036 hw))) (Or.inr (own_sn_529 hw))).keep K741 (ninS (Ne.symm ne735) nin0)).keep K757 (ninS (Ne.symm ne750) nin0)).keep K769 nin0) (Or.inr (own_sn_1038 hw)))
    obtain ⟨T797, h797, X797, e797, W797, st797⟩ := putF X793 hx hZ hown (host := "") (Or.inl (own_w hw 325 rfl)) Via.refl e793 F796 F795 (Or.inl (own_w hw 326 rfl)) (own_w hw 27 rfl) (ty := (.object "java/lang/String")) own_lm_319 rfl rfl (g := (mkF m 327 #[.val (.ref a), .val (.ref b), .val (.ref b441), .val (.ref r_771), .unset, .unset] [.null, (.ref b441)])) rfl rfl (hb hby own_d_prog_17_41_327)
    have N797 := Fr.snoc X797 N793 g448
    have F798 : Fld Z h797 b441 own_c_235 "destroyMethodName" "Ljava/lang/String;" .null := Fld.same W797 F796
    refine own_st (fun u_ k_ => st797 u_ k_) ?_
    show own_Go p e below _ (T797.setTop (mkF m 330 #[.val (.ref a), .val (.ref b), .val (.ref b441), .val (.ref r_771), .unset, .unset] []))
    refine own_st (fun u_ k_ => XS.aloadN X797.here hx rfl (hb hby own_d_prog_17_41_330) rfl rfl k_) ?_
    refine own_st (fun u_ k_ => XS.aloadN X797.here hx rfl (hb hby own_d_prog_17_41_331) rfl rfl k_) ?_
    show own_Go p e below _ (T797.setTop (mkF m 332 #[.val (.ref a), .val (.ref b), .val (.ref b441), .val (.ref r_771), .unset, .unset] [(.ref a), (.ref b441)]))
    have F799 := (Fld.other W797 (Fld.other W787 ((((Fld.other W720 (Fld.other W709 (Fld.other W699 (Fld.other W689 (Fld.other W536 (Fld.other W526 (Fld.other W511 (Fld.other W505 (Fld.other W499 (Fld.other W493 ((Fld.ext E441 B17).keep K449 (ninS ne490 nin0)) (Or.inl ne490)) (Or.inl ne490)) (Or.inl ne490)) (Or.inl ne490)) (Or.inl ne490)) (Or.inl ne490)) (Or.inl ne490)) (Or.inl ne490)) (Or.inl ne490)) (Or.inl ne490)).keep K741 (ninS ne760 nin0)).keep K757 (ninS ne761 nin0)).keep K769 nin0) (Or.inl ne490)) (Or.inl ne490))
    obtain ⟨T800, X800, e800, st800⟩ := getF X797 hx hZ hown (host := "") (Or.inl (own_w hw 327 rfl)) Via.refl e797 F799 (g := (mkF m 332 #[.val (.ref a), .val (.ref b), .val (.ref b441), .val (.ref r_771), .unset, .unset] [(.ref a), (.ref b441)])) rfl rfl (hb hby own_d_prog_17_41_332)
    refine own_st (fun u_ k_ => st800 u_ k_) ?_
    show own_Go p e below _ (T800.setTop (mkF m 335 #[.val (.ref a), .val (.ref b), .val (.ref b441), .val (.ref r_771), .unset, .unset] [.null, (.ref b441)]))
    have F801 := (Exa.wr W797 F795)
    have F802 := (Fld.other W797 (Fld.other W787 ((((Fld.other W720 (Fld.other W709 (Fld.other W699 (Fld.other W689 (Fld.other W536 (Fld.other W526 (Fld.other W511 (Fld.other W505 (Fld.other W499 (Fld.other W493 F476 (Or.inr (own_sn_1044 hw))) (Or.inr (own_sn_1046 hw))) (Or.inr (own_sn_1048 hw))) (Or.inr (own_sn_543 hw))) (Or.inr (own_sn_1050 hw))) (Or.inr (own_sn_1052 hw))) (Or.inr (own_sn_646 hw))) (Or.inr (own_sn_1054 hw))) (Or.inr (own_sn_1056 hw))) (Or.inr (own_sn_545 hw))).keep K741 (ninS (Ne.symm ne735) nin0)).keep K757 (ninS (Ne.symm ne750) nin0)).keep K769 nin0) (Or.inr (own_sn_1058 hw))) (Or.inr (own_sn_1060 hw)))
    obtain ⟨T803, h803, X803, e803, W803, st803⟩ := putF X800 hx hZ hown (host := "") (Or.inl (own_w hw 327 rfl)) Via.refl e800 F802 F801 (Or.inl (own_w hw 328 rfl)) (own_w hw 27 rfl) (ty := (.object "java/lang/String")) own_lm_319 rfl rfl (g := (mkF m 335 #[.val (.ref a), .val (.ref b), .val (.ref b441), .val (.ref r_771), .unset, .unset] [.null, (.ref b441)])) rfl rfl (hb hby own_d_prog_17_41_335)
    have N803 := Fr.snoc X803 N797 g448
    have F804 : Fld Z h803 b441 own_c_235 "origin" "Ljava/lang/String;" .null := Fld.same W803 F802
    refine own_st (fun u_ k_ => st803 u_ k_) ?_
    show own_Go p e below _ (T803.setTop (mkF m 338 #[.val (.ref a), .val (.ref b), .val (.ref b441), .val (.ref r_771), .unset, .unset] []))
    refine own_st (fun u_ k_ => XS.aloadN X803.here hx rfl (hb hby own_d_prog_17_41_338) rfl rfl k_) ?_
    have K805 : Keep h0 h441 [] := (Keep.refl h0 []).ext E441
    have z807 : h0.size ≤ b441 := Nat.le_trans (Nat.le_refl _) (Nat.le_of_eq g441.symm)
    have K806 : Keep h0 T449.heap [] := K805.trans K449 (allS (Or.inr z807) all0)
    have K808 : Keep h0 h493 [] := K806.wr W493 (Or.inr z807)
    have K809 : Keep h0 h499 [] := K808.wr W499 (Or.inr z807)
    have K810 : Keep h0 h505 [] := K809.wr W505 (Or.inr z807)
    have K811 : Keep h0 h511 [] := K810.wr W511 (Or.inr z807)
    have K812 : Keep h0 h526 [] := K811.wr W526 (Or.inr z807)
    have K813 : Keep h0 h536 [] := K812.wr W536 (Or.inr z807)
    have K814 : Keep h0 h689 [] := K813.wr W689 (Or.inr z807)
    have K815 : Keep h0 h699 [] := K814.wr W699 (Or.inr z807)
    have K816 : Keep h0 h709 [] := K815.wr W709 (Or.inr z807)
    have K817 : Keep h0 h720 [] := K816.wr W720 (Or.inr z807)
    have z819 : h0.size ≤ ca_450 := Nat.le_trans E441.1 z455
    have K818 : Keep h0 T741.heap [] := K817.trans K741 (allS (Or.inr z819) all0)
    have z821 : h0.size ≤ pv_451 := Nat.le_trans E441.1 z456
    have K820 : Keep h0 T757.heap [] := K818.trans K757 (allS (Or.inr z821) all0)
    have K822 : Keep h0 T769.heap [] := K820.trans K769 all0
    have K823 : Keep h0 h787 [] := K822.wr W787 (Or.inr z807)
    have K824 : Keep h0 h797 [] := K823.wr W797 (Or.inr z807)
    have K825 : Keep h0 h803 [] := K824.wr W803 (Or.inr z807)
    have F826 := (Exa.wr W803 F801)
    have F827 := (Fld.other W803 (Fld.other W797 (Fld.other W787 ((((Fld.other W720 (Fld.other W709 (Fld.other W699 F690 (Or.inr (own_sn_1064 hw))) (Or.inr (own_sn_1066 hw))) (Or.inr (own_sn_382 hw))).keep K741 (ninS (Ne.symm ne735) nin0)).keep K757 (ninS (Ne.symm ne750) nin0)).keep K769 nin0) (Or.inr (own_sn_1068 hw))) (Or.inr (own_sn_1070 hw))) (Or.inr (own_sn_1072 hw)))
    exact own_retX X803 hx hlk hret rfl (Or.inr (Or.inr (Or.inr (Or.inr ⟨rfl, rfl, rfl⟩)))) (hb hby own_d_prog_17_41_339) (by decide) (by decide) (show QrmMN Z w0 w1 w2 w3 wl wle wd mAL mUL mUR mOA wcs kle kd a b ca pv wt u1 ca2 pv2 wt2 u2 h0 n0 (some (.ref b441)) T803.heap _ from (by rw [e803]; exact ⟨b441, (.ref wq), rfl, N803, K825, z807, F826, F827, hq.symm⟩))
theorem own_ef_rmMR (m : MethodId) (a : Addr) (b : Addr)  : entryFrame m #[(.ref a), (.ref b)] 6 = mkF m 0 #[.val (.ref a), .val (.ref b), .unset, .unset, .unset, .unset] [] := by first | (simp [entryFrame, mkF, argsToLocals, Value.category, maxLocals]; done) | rfl
def QrmMR (Z : State) (w0 w1 w2 w3 wl wle wd mAL mUL mUR mOA : Addr) (wcs : Int32) (kle kd : ClassId) (a : Addr) (b : Addr) (cs : Addr) (ca : Addr) (pv : Addr) (wt : Addr) (u1 : Value) (ca2 : Addr) (pv2 : Addr) (wt2 : Addr) (u2 : Value) (h0 : Heap) (n0 : Nat) (v : Option Value) (h : Heap) (L : List Loc) : Prop := ∃ r : Addr, ∃ u3 : Value, v = some (.ref r) ∧ Fr n0 L ∧ Keep h0 h [] ∧ h0.size ≤ r ∧ Exa Z h r own_c_235 ∧ Fld Z h r own_c_235 "autowire" own_c_559 u3 ∧ u3 = own_or u1 u2
set_option maxRecDepth 65536 in
set_option maxHeartbeats 40000000 in
theorem rmMR (l : Launch) (Z : State) (a0 : Array Value) (hw : own_H a0 Z) (ws : List Jvm.Cond) (w0 w1 w2 w3 wl wle wd mAL mUL mUR mOA : Addr) (wcs : Int32) (kle kd : ClassId) (hS : own_S Z w0 w1 w2 w3 wl wle wd mAL mUL mUR mOA wcs kle kd) (a : Addr) (b : Addr) (cs : Addr) (ca : Addr) (pv : Addr) (wt : Addr) (u1 : Value) (ca2 : Addr) (pv2 : Addr) (wt2 : Addr) (u2 : Value) (h0 : Heap) (n0 : Nat) (O0 : Old Z n0 h0) (B0 : Exa Z h0 a own_c_235) (B1 : Fld Z h0 a own_c_235 "qualifiers" "Ljava/util/List;" (.ref wl)) (B2 : Fld Z h0 a own_c_235 "dependsOn" "Ljava/util/List;" (.ref wl)) (B3 : Fld Z h0 a own_c_235 "constructorArguments" "Ljava/util/List;" (.ref ca)) (B4 : Fld Z h0 a own_c_235 "propertyValues" "Ljava/util/List;" (.ref pv)) (B5 : Fld Z h0 a own_c_235 "watchers" "Ljava/util/List;" (.ref wt)) (B6 : Fld Z h0 a own_c_235 "className" "Ljava/lang/String;" (.ref cs)) (B7 : Fld Z h0 a own_c_235 "autowire" own_c_559 u1) (B8 : Fld Z h0 a own_c_235 "value" own_c_560 .null) (B9 : Fld Z h0 a own_c_235 "abstractDefinition" "Z" (.int (0 : Int32))) (B10 : Fld Z h0 a own_c_235 "primary" "Z" (.int (0 : Int32))) (B11 : Fld Z h0 a own_c_235 "scope" "Ljava/lang/String;" .null) (B12 : Fld Z h0 a own_c_235 "lazyInit" "Ljava/lang/Boolean;" .null) (B13 : Fld Z h0 a own_c_235 "factoryBeanName" "Ljava/lang/String;" .null) (B14 : Fld Z h0 a own_c_235 "factoryMethodName" "Ljava/lang/String;" .null) (B15 : Fld Z h0 a own_c_235 "initMethodName" "Ljava/lang/String;" .null) (B16 : Fld Z h0 a own_c_235 "destroyMethodName" "Ljava/lang/String;" .null) (B17 : Fld Z h0 a own_c_235 "origin" "Ljava/lang/String;" .null) (D0 : Exa Z h0 b own_c_235) (D1 : Fld Z h0 b own_c_235 "qualifiers" "Ljava/util/List;" (.ref wl)) (D2 : Fld Z h0 b own_c_235 "dependsOn" "Ljava/util/List;" (.ref wl)) (D3 : Fld Z h0 b own_c_235 "constructorArguments" "Ljava/util/List;" (.ref ca2)) (D4 : Fld Z h0 b own_c_235 "propertyValues" "Ljava/util/List;" (.ref pv2)) (D5 : Fld Z h0 b own_c_235 "watchers" "Ljava/util/List;" (.ref wt2)) (D6 : Fld Z h0 b own_c_235 "className" "Ljava/lang/String;" .null) (D7 : Fld Z h0 b own_c_235 "autowire" own_c_559 u2) (D8 : Fld Z h0 b own_c_235 "value" own_c_560 .null) (D9 : Fld Z h0 b own_c_235 "abstractDefinition" "Z" (.int (0 : Int32))) (D10 : Fld Z h0 b own_c_235 "primary" "Z" (.int (0 : Int32))) (D11 : Fld Z h0 b own_c_235 "scope" "Ljava/lang/String;" .null) (D12 : Fld Z h0 b own_c_235 "lazyInit" "Ljava/lang/Boolean;" .null) (D13 : Fld Z h0 b own_c_235 "factoryBeanName" "Ljava/lang/String;" .null) (D14 : Fld Z h0 b own_c_235 "factoryMethodName" "Ljava/lang/String;" .null) (D15 : Fld Z h0 b own_c_235 "initMethodName" "Ljava/lang/String;" .null) (D16 : Fld Z h0 b own_c_235 "destroyMethodName" "Ljava/lang/String;" .null) (D17 : Fld Z h0 b own_c_235 "origin" "Ljava/lang/String;" .null) (L0 : Exa Z h0 ca "java/util/ArrayList") (L1 : Fld Z h0 ca own_c_70 "modCount" "I" (.int (0 : Int32))) (L2 : Fld Z h0 ca "java/util/ArrayList" "size" "I" (.int (0 : Int32))) (L3 : Fld Z h0 ca "java/util/ArrayList" "elementData" "[Ljava/lang/Object;" (.ref wd)) (M0 : Exa Z h0 pv "java/util/ArrayList") (M1 : Fld Z h0 pv own_c_70 "modCount" "I" (.int (0 : Int32))) (M2 : Fld Z h0 pv "java/util/ArrayList" "size" "I" (.int (0 : Int32))) (M3 : Fld Z h0 pv "java/util/ArrayList" "elementData" "[Ljava/lang/Object;" (.ref wd)) (L2_0 : Exa Z h0 ca2 "java/util/ArrayList") (L2_1 : Fld Z h0 ca2 own_c_70 "modCount" "I" (.int (0 : Int32))) (L2_2 : Fld Z h0 ca2 "java/util/ArrayList" "size" "I" (.int (0 : Int32))) (L2_3 : Fld Z h0 ca2 "java/util/ArrayList" "elementData" "[Ljava/lang/Object;" (.ref wd)) (M2_0 : Exa Z h0 pv2 "java/util/ArrayList") (M2_1 : Fld Z h0 pv2 own_c_70 "modCount" "I" (.int (0 : Int32))) (M2_2 : Fld Z h0 pv2 "java/util/ArrayList" "size" "I" (.int (0 : Int32))) (M2_3 : Fld Z h0 pv2 "java/util/ArrayList" "elementData" "[Ljava/lang/Object;" (.ref wd)) (Ecs : Exa Z h0 cs "java/lang/String") (hu1 : u1.isRef = true) (hu2 : u2.isRef = true) (aw1 : own_AW Z u1) (aw2 : own_AW Z u2) :
    own_Met l own_y_1073 prog_17_method_41_code 6 (some (.object "com/example/temanggung/temanggung/beans/factory/BeanDefinition")) ws ({ frames := 6, cells := 11, slots := 36, locals := 84 } : Room) Z h0 #[(.ref a), (.ref b)] (QrmMR Z w0 w1 w2 w3 wl wle wd mAL mUL mUR mOA wcs kle kd a b cs ca pv wt u1 ca2 pv2 wt2 u2 h0 n0) := by
  refine own_body (plainFor_of_name own_pn_234) ?_
  intro p e s m below meth c s₁ hx hby hml hown hnm hret hlk hZ e0 X0
  have N0 := Fr.nil n0
  refine own_st (fun u_ k_ => castTop (own_ef_rmMR m a b) k_) ?_
  show own_Go p e below _ (s₁.setTop (mkF m 0 #[.val (.ref a), .val (.ref b), .unset, .unset, .unset, .unset] []))
  obtain ⟨T828, h828, X828, e828, E828, A828, D828, U828, st828⟩ := newO X0 hx hZ hown (own_w hw 214 rfl) (own_w hw 27 rfl) (own_w hw 28 rfl) e0 (g := (mkF m 0 #[.val (.ref a), .val (.ref b), .unset, .unset, .unset, .unset] [])) rfl (hb hby own_d_prog_17_41_0) (by decide) (by decide)
  obtain ⟨b828, g828⟩ : ∃ z, z = h0.size := ⟨_, rfl⟩
  rw [← g828] at A828 D828 U828 st828
  have F828_qualifiers : Fld Z h828 b828 own_c_235 "qualifiers" "Ljava/util/List;" .null := D828 (Or.inl (own_w hw 40 rfl)) (ty := (.object "java/util/List")) own_lm_104
  have F828_dependsOn : Fld Z h828 b828 own_c_235 "dependsOn" "Ljava/util/List;" .null := D828 (Or.inl (own_w hw 42 rfl)) (ty := (.object "java/util/List")) own_lm_104
  have F828_constructorArguments : Fld Z h828 b828 own_c_235 "constructorArguments" "Ljava/util/List;" .null := D828 (Or.inr (own_w hw 68 rfl)) (ty := (.object "java/util/List")) own_lm_104
  have F828_constructorArgumentsView : Fld Z h828 b828 own_c_235 "constructorArgumentsView" "Ljava/util/List;" .null := D828 (Or.inr (own_w hw 113 rfl)) (ty := (.object "java/util/List")) own_lm_104
  have F828_propertyValues : Fld Z h828 b828 own_c_235 "propertyValues" "Ljava/util/List;" .null := D828 (Or.inr (own_w hw 115 rfl)) (ty := (.object "java/util/List")) own_lm_104
  have F828_propertyValuesView : Fld Z h828 b828 own_c_235 "propertyValuesView" "Ljava/util/List;" .null := D828 (Or.inr (own_w hw 117 rfl)) (ty := (.object "java/util/List")) own_lm_104
  have F828_watchers : Fld Z h828 b828 own_c_235 "watchers" "Ljava/util/List;" .null := D828 (Or.inr (own_w hw 139 rfl)) (ty := (.object "java/util/List")) own_lm_104
  have F828_className : Fld Z h828 b828 own_c_235 "className" "Ljava/lang/String;" .null := D828 (Or.inl (own_w hw 141 rfl)) (ty := (.object "java/lang/String")) own_lm_319
  have F828_autowire : Fld Z h828 b828 own_c_235 "autowire" own_c_559 .null := D828 (Or.inl (own_w hw 148 rfl)) (ty := (.object "com/example/temanggung/temanggung/beans/factory/Autowire")) own_lm_379
  have F828_value : Fld Z h828 b828 own_c_235 "value" own_c_560 .null := D828 (Or.inl (own_w hw 221 rfl)) (ty := (.object "com/example/temanggung/temanggung/beans/factory/DefinedValue")) own_lm_396
  have F828_abstractDefinition : Fld Z h828 b828 own_c_235 "abstractDefinition" "Z" (.int (0 : Int32)) := D828 (Or.inl (own_w hw 223 rfl)) (ty := .boolean) own_lm_413
  have F828_primary : Fld Z h828 b828 own_c_235 "primary" "Z" (.int (0 : Int32)) := D828 (Or.inl (own_w hw 225 rfl)) (ty := .boolean) own_lm_413
  have F828_scope : Fld Z h828 b828 own_c_235 "scope" "Ljava/lang/String;" .null := D828 (Or.inl (own_w hw 227 rfl)) (ty := (.object "java/lang/String")) own_lm_319
  have F828_lazyInit : Fld Z h828 b828 own_c_235 "lazyInit" "Ljava/lang/Boolean;" .null := D828 (Or.inl (own_w hw 229 rfl)) (ty := (.object "java/lang/Boolean")) own_lm_462
  have F828_factoryBeanName : Fld Z h828 b828 own_c_235 "factoryBeanName" "Ljava/lang/String;" .null := D828 (Or.inl (own_w hw 233 rfl)) (ty := (.object "java/lang/String")) own_lm_319
  have F828_factoryMethodName : Fld Z h828 b828 own_c_235 "factoryMethodName" "Ljava/lang/String;" .null := D828 (Or.inl (own_w hw 235 rfl)) (ty := (.object "java/lang/String")) own_lm_319
  have F828_initMethodName : Fld Z h828 b828 own_c_235 "initMethodName" "Ljava/lang/String;" .null := D828 (Or.inl (own_w hw 324 rfl)) (ty := (.object "java/lang/String")) own_lm_319
  have F828_destroyMethodName : Fld Z h828 b828 own_c_235 "destroyMethodName" "Ljava/lang/String;" .null := D828 (Or.inl (own_w hw 326 rfl)) (ty := (.object "java/lang/String")) own_lm_319
  have F828_origin : Fld Z h828 b828 own_c_235 "origin" "Ljava/lang/String;" .null := D828 (Or.inl (own_w hw 328 rfl)) (ty := (.object "java/lang/String")) own_lm_319
  refine own_st (fun u_ k_ => st828 u_ k_) ?_
  show own_Go p e below _ (T828.setTop (mkF m 3 #[.val (.ref a), .val (.ref b), .unset, .unset, .unset, .unset] [(.ref b828)]))
  refine own_st (fun u_ k_ => XS.dup X828.here hx rfl (hb hby own_d_prog_17_41_3) rfl rfl k_) ?_
  refine own_st (fun u_ k_ => XS.aloadN X828.here hx rfl (hb hby own_d_prog_17_41_4) rfl rfl k_) ?_
  show own_Go p e below _ (T828.setTop (mkF m 5 #[.val (.ref a), .val (.ref b), .unset, .unset, .unset, .unset] [(.ref a), (.ref b828), (.ref b828)]))
  have F829 := (Fld.ext E828 B6)
  obtain ⟨T830, X830, e830, st830⟩ := getF X828 hx hZ hown (host := "") (Or.inl (own_w hw 140 rfl)) Via.refl e828 F829 (g := (mkF m 5 #[.val (.ref a), .val (.ref b), .unset, .unset, .unset, .unset] [(.ref a), (.ref b828), (.ref b828)])) rfl rfl (hb hby own_d_prog_17_41_5)
  refine own_st (fun u_ k_ => st830 u_ k_) ?_
  show own_Go p e below _ (T830.setTop (mkF m 8 #[.val (.ref a), .val (.ref b), .unset, .unset, .unset, .unset] [(.ref cs), (.ref b828), (.ref b828)]))
  refine own_st (fun u_ k_ => XS.aloadN X830.here hx rfl (hb hby own_d_prog_17_41_8) rfl rfl k_) ?_
  have F831 := (Fld.ext E828 D6)
  obtain ⟨T832, X832, e832, st832⟩ := getF X830 hx hZ hown (host := "") (Or.inl (own_w hw 140 rfl)) Via.refl e830 F831 (g := (mkF m 9 #[.val (.ref a), .val (.ref b), .unset, .unset, .unset, .unset] [(.ref b), (.ref cs), (.ref b828), (.ref b828)])) rfl rfl (hb hby own_d_prog_17_41_9)
  refine own_st (fun u_ k_ => st832 u_ k_) ?_
  show own_Go p e below _ (T832.setTop (mkF m 12 #[.val (.ref a), .val (.ref b), .unset, .unset, .unset, .unset] [.null, (.ref cs), (.ref b828), (.ref b828)]))
  have O834 : Old Z n0 h828 := O0.ext E828
  obtain ⟨T833, v833, L833, X833, hQ833, st833⟩ := own_callS X832 hx hZ (y := own_y_652) hown (own_w hw 215 rfl) (own_w hw 216 rfl) (own_w hw 28 rfl) (own_w hw 217 rfl) own_lm_615 (rmER l Z a0 hw [] w0 w1 w2 w3 wl wle wd mAL mUL mUR mOA wcs kle kd hS cs h828 n0 O834 ) e832 own_pd_796 (argsL := [(.ref cs), .null]) (rest := [(.ref b828), (.ref b828)]) rfl rfl (g := (mkF m 12 #[.val (.ref a), .val (.ref b), .unset, .unset, .unset, .unset] [.null, (.ref cs), (.ref b828), (.ref b828)])) rfl (by rw [hml]; rfl) rfl (hb hby own_d_prog_17_41_12) (W := 2) rfl (by decide) (by decide) (by decide) (by decide)
  obtain ⟨rfl, M833, e833⟩ := hQ833
  have N833 := Fr.app N0 M833
  refine own_st (fun u_ k_ => st833 u_ k_) ?_
  show own_Go p e below _ (T833.setTop (mkF m 15 #[.val (.ref a), .val (.ref b), .unset, .unset, .unset, .unset] [(.ref cs), (.ref b828), (.ref b828)]))
  have F836 := (Exa.ext E828 Ecs)
  obtain ⟨T835, X835, e835, st835⟩ := castY X833 hx hZ hown (own_w hw 218 rfl) e833 (Ins.self F836) (g := (mkF m 15 #[.val (.ref a), .val (.ref b), .unset, .unset, .unset, .unset] [(.ref cs), (.ref b828), (.ref b828)])) rfl rfl (hb hby own_d_prog_17_41_15)
  refine own_st (fun u_ k_ => st835 u_ k_) ?_
  show own_Go p e below _ (T835.setTop (mkF m 18 #[.val (.ref a), .val (.ref b), .unset, .unset, .unset, .unset] [(.ref cs), (.ref b828), (.ref b828)]))
  have g837 : n0 ≤ b828 := Nat.le_trans (own_nl O0) (Nat.le_of_eq g828.symm)
  obtain ⟨T838, v838, L838, X838, hQ838, st838⟩ := own_callN X835 hx hZ (y := own_y_558) rfl hown (own_w hw 219 rfl) (own_w hw 30 rfl) (own_w hw 28 rfl) (own_w hw 31 rfl) own_lm_615 (rmBI l Z a0 hw [] w0 w1 w2 w3 wl wle wd mAL mUL mUR mOA wcs kle kd hS b828 ((.ref cs) : Value) h828 n0 O834 g837 rfl A828 F828_qualifiers F828_dependsOn F828_constructorArguments F828_constructorArgumentsView F828_propertyValues F828_propertyValuesView F828_watchers F828_className F828_autowire F828_value F828_abstractDefinition F828_primary F828_scope F828_lazyInit F828_factoryBeanName F828_factoryMethodName F828_initMethodName F828_destroyMethodName F828_origin) e835 own_pd_799 (a := b828) (argsL := [(.ref cs)]) (rest := [(.ref b828)]) rfl rfl (g := (mkF m 18 #[.val (.ref a), .val (.ref b), .unset, .unset, .unset, .unset] [(.ref cs), (.ref b828), (.ref b828)])) rfl (by rw [hml]; rfl) rfl (hb hby own_d_prog_17_41_18) (W := 1) rfl (by decide) (by decide) (by decide) (by decide)
  obtain ⟨ca_839, pv_840, wt_841, ar_842, kr_843, rfl, M838, K838, z844, z845, z846, z847, F848, F849, F850, F851, F852, F853, F854, F855, F856, F857, F858, F859, F860, F861, F862, F863, F864, F865, F866, F867, F868, F869, F870, F871, F872, F873, F874, F875, F876, F877, ne_878⟩ := hQ838
  have N838 := Fr.app N833 M838
  refine own_st (fun u_ k_ => st838 u_ k_) ?_
  show own_Go p e below _ (T838.setTop (mkF m 21 #[.val (.ref a), .val (.ref b), .unset, .unset, .unset, .unset] [(.ref b828)]))
  refine own_st (fun u_ k_ => XS.astoreN X838.here hx rfl (hb hby own_d_prog_17_41_21) rfl rfl (l' := #[.val (.ref a), .val (.ref b), .val (.ref b828), .unset, .unset, .unset]) rfl k_) ?_
  refine own_st (fun u_ k_ => XS.aloadN X838.here hx rfl (hb hby own_d_prog_17_41_22) rfl rfl k_) ?_
  show own_Go p e below _ (T838.setTop (mkF m 23 #[.val (.ref a), .val (.ref b), .val (.ref b828), .unset, .unset, .unset] [(.ref b828)]))
  refine own_st (fun u_ k_ => XS.aloadN X838.here hx rfl (hb hby own_d_prog_17_41_23) rfl rfl k_) ?_
  have ne879 : a ≠ b828 := (Nat.ne_of_lt (Nat.lt_of_lt_of_le B0.lt (Nat.le_of_eq g828.symm)))
  have F880 := ((Fld.ext E828 B8).keep K838 (ninS ne879 nin0))
  obtain ⟨T881, X881, e881, st881⟩ := getF X838 hx hZ hown (host := "") (Or.inl (own_w hw 220 rfl)) Via.refl rfl F880 (g := (mkF m 24 #[.val (.ref a), .val (.ref b), .val (.ref b828), .unset, .unset, .unset] [(.ref a), (.ref b828)])) rfl rfl (hb hby own_d_prog_17_41_24)
  refine own_st (fun u_ k_ => st881 u_ k_) ?_
  show own_Go p e below _ (T881.setTop (mkF m 27 #[.val (.ref a), .val (.ref b), .val (.ref b828), .unset, .unset, .unset] [.null, (.ref b828)]))
  obtain ⟨T882, h882, X882, e882, W882, st882⟩ := putF X881 hx hZ hown (host := "") (Or.inl (own_w hw 220 rfl)) Via.refl e881 F856 F848 (Or.inl (own_w hw 221 rfl)) (own_w hw 27 rfl) (ty := (.object "com/example/temanggung/temanggung/beans/factory/DefinedValue")) own_lm_396 rfl rfl (g := (mkF m 27 #[.val (.ref a), .val (.ref b), .val (.ref b828), .unset, .unset, .unset] [.null, (.ref b828)])) rfl rfl (hb hby own_d_prog_17_41_27)
  have N882 := Fr.snoc X882 N838 g837
  have F883 : Fld Z h882 b828 own_c_235 "value" own_c_560 .null := Fld.same W882 F856
  refine own_st (fun u_ k_ => st882 u_ k_) ?_
  show own_Go p e below _ (T882.setTop (mkF m 30 #[.val (.ref a), .val (.ref b), .val (.ref b828), .unset, .unset, .unset] []))
  refine own_st (fun u_ k_ => XS.aloadN X882.here hx rfl (hb hby own_d_prog_17_41_30) rfl rfl k_) ?_
  refine own_st (fun u_ k_ => XS.aloadN X882.here hx rfl (hb hby own_d_prog_17_41_31) rfl rfl k_) ?_
  show own_Go p e below _ (T882.setTop (mkF m 32 #[.val (.ref a), .val (.ref b), .val (.ref b828), .unset, .unset, .unset] [(.ref a), (.ref b828)]))
  have F884 := (Fld.other W882 ((Fld.ext E828 B9).keep K838 (ninS ne879 nin0)) (Or.inl ne879))
  obtain ⟨T885, X885, e885, st885⟩ := getF X882 hx hZ hown (host := "") (Or.inl (own_w hw 222 rfl)) Via.refl e882 F884 (g := (mkF m 32 #[.val (.ref a), .val (.ref b), .val (.ref b828), .unset, .unset, .unset] [(.ref a), (.ref b828)])) rfl rfl (hb hby own_d_prog_17_41_32)
  refine own_st (fun u_ k_ => st885 u_ k_) ?_
  show own_Go p e below _ (T885.setTop (mkF m 35 #[.val (.ref a), .val (.ref b), .val (.ref b828), .unset, .unset, .unset] [(.int (0 : Int32)), (.ref b828)]))
  have F886 := (Exa.wr W882 F848)
  have F887 := (Fld.other W882 F857 (Or.inr (own_sn_810 hw)))
  obtain ⟨T888, h888, X888, e888, W888, st888⟩ := putF X885 hx hZ hown (host := "") (Or.inl (own_w hw 222 rfl)) Via.refl e885 F887 F886 (Or.inl (own_w hw 223 rfl)) (own_w hw 27 rfl) (ty := .boolean) own_lm_413 rfl rfl (g := (mkF m 35 #[.val (.ref a), .val (.ref b), .val (.ref b828), .unset, .unset, .unset] [(.int (0 : Int32)), (.ref b828)])) rfl rfl (hb hby own_d_prog_17_41_35)
  have N888 := Fr.snoc X888 N882 g837
  have F889 : Fld Z h888 b828 own_c_235 "abstractDefinition" "Z" (.int (0 : Int32)) := Fld.same W888 F887
  refine own_st (fun u_ k_ => st888 u_ k_) ?_
  show own_Go p e below _ (T888.setTop (mkF m 38 #[.val (.ref a), .val (.ref b), .val (.ref b828), .unset, .unset, .unset] []))
  refine own_st (fun u_ k_ => XS.aloadN X888.here hx rfl (hb hby own_d_prog_17_41_38) rfl rfl k_) ?_
  refine own_st (fun u_ k_ => XS.aloadN X888.here hx rfl (hb hby own_d_prog_17_41_39) rfl rfl k_) ?_
  show own_Go p e below _ (T888.setTop (mkF m 40 #[.val (.ref a), .val (.ref b), .val (.ref b828), .unset, .unset, .unset] [(.ref a), (.ref b828)]))
  have F890 := (Fld.other W888 (Fld.other W882 ((Fld.ext E828 B10).keep K838 (ninS ne879 nin0)) (Or.inl ne879)) (Or.inl ne879))
  obtain ⟨T891, X891, e891, st891⟩ := getF X888 hx hZ hown (host := "") (Or.inl (own_w hw 224 rfl)) Via.refl e888 F890 (g := (mkF m 40 #[.val (.ref a), .val (.ref b), .val (.ref b828), .unset, .unset, .unset] [(.ref a), (.ref b828)])) rfl rfl (hb hby own_d_prog_17_41_40)
  refine own_st (fun u_ k_ => st891 u_ k_) ?_
  show own_Go p e below _ (T891.setTop (mkF m 43 #[.val (.ref a), .val (.ref b), .val (.ref b828), .unset, .unset, .unset] [(.int (0 : Int32)), (.ref b828)]))
  have F892 := (Exa.wr W888 F886)
  have F893 := (Fld.other W888 (Fld.other W882 F858 (Or.inr (own_sn_816 hw))) (Or.inr (own_sn_818 hw)))
  obtain ⟨T894, h894, X894, e894, W894, st894⟩ := putF X891 hx hZ hown (host := "") (Or.inl (own_w hw 224 rfl)) Via.refl e891 F893 F892 (Or.inl (own_w hw 225 rfl)) (own_w hw 27 rfl) (ty := .boolean) own_lm_413 rfl rfl (g := (mkF m 43 #[.val (.ref a), .val (.ref b), .val (.ref b828), .unset, .unset, .unset] [(.int (0 : Int32)), (.ref b828)])) rfl rfl (hb hby own_d_prog_17_41_43)
  have N894 := Fr.snoc X894 N888 g837
  have F895 : Fld Z h894 b828 own_c_235 "primary" "Z" (.int (0 : Int32)) := Fld.same W894 F893
  refine own_st (fun u_ k_ => st894 u_ k_) ?_
  show own_Go p e below _ (T894.setTop (mkF m 46 #[.val (.ref a), .val (.ref b), .val (.ref b828), .unset, .unset, .unset] []))
  refine own_st (fun u_ k_ => XS.aloadN X894.here hx rfl (hb hby own_d_prog_17_41_46) rfl rfl k_) ?_
  refine own_st (fun u_ k_ => XS.aloadN X894.here hx rfl (hb hby own_d_prog_17_41_47) rfl rfl k_) ?_
  show own_Go p e below _ (T894.setTop (mkF m 48 #[.val (.ref a), .val (.ref b), .val (.ref b828), .unset, .unset, .unset] [(.ref a), (.ref b828)]))
  have F896 := (Fld.other W894 (Fld.other W888 (Fld.other W882 ((Fld.ext E828 B1).keep K838 (ninS ne879 nin0)) (Or.inl ne879)) (Or.inl ne879)) (Or.inl ne879))
  obtain ⟨T897, X897, e897, st897⟩ := getF X894 hx hZ hown (host := "") (Or.inl (own_w hw 39 rfl)) Via.refl e894 F896 (g := (mkF m 48 #[.val (.ref a), .val (.ref b), .val (.ref b828), .unset, .unset, .unset] [(.ref a), (.ref b828)])) rfl rfl (hb hby own_d_prog_17_41_48)
  refine own_st (fun u_ k_ => st897 u_ k_) ?_
  show own_Go p e below _ (T897.setTop (mkF m 51 #[.val (.ref a), .val (.ref b), .val (.ref b828), .unset, .unset, .unset] [(.ref wl), (.ref b828)]))
  have F898 := (Exa.wr W894 F892)
  have F899 := (Fld.other W894 (Fld.other W888 (Fld.other W882 F849 (Or.inr (own_sn_824 hw))) (Or.inr (own_sn_826 hw))) (Or.inr (own_sn_828 hw)))
  obtain ⟨T900, h900, X900, e900, W900, st900⟩ := putF X897 hx hZ hown (host := "") (Or.inl (own_w hw 39 rfl)) Via.refl e897 F899 F898 (Or.inl (own_w hw 40 rfl)) (own_w hw 27 rfl) (ty := (.object "java/util/List")) own_lm_104 rfl rfl (g := (mkF m 51 #[.val (.ref a), .val (.ref b), .val (.ref b828), .unset, .unset, .unset] [(.ref wl), (.ref b828)])) rfl rfl (hb hby own_d_prog_17_41_51)
  have N900 := Fr.snoc X900 N894 g837
  have F901 : Fld Z h900 b828 own_c_235 "qualifiers" "Ljava/util/List;" (.ref wl) := Fld.same W900 F899
  refine own_st (fun u_ k_ => st900 u_ k_) ?_
  show own_Go p e below _ (T900.setTop (mkF m 54 #[.val (.ref a), .val (.ref b), .val (.ref b828), .unset, .unset, .unset] []))
  refine own_st (fun u_ k_ => XS.aloadN X900.here hx rfl (hb hby own_d_prog_17_41_54) rfl rfl k_) ?_
  refine own_st (fun u_ k_ => XS.aloadN X900.here hx rfl (hb hby own_d_prog_17_41_55) rfl rfl k_) ?_
  show own_Go p e below _ (T900.setTop (mkF m 56 #[.val (.ref a), .val (.ref b), .val (.ref b828), .unset, .unset, .unset] [(.ref a), (.ref b828)]))
  have F902 := (Fld.other W900 (Fld.other W894 (Fld.other W888 (Fld.other W882 ((Fld.ext E828 B11).keep K838 (ninS ne879 nin0)) (Or.inl ne879)) (Or.inl ne879)) (Or.inl ne879)) (Or.inl ne879))
  obtain ⟨T903, X903, e903, st903⟩ := getF X900 hx hZ hown (host := "") (Or.inl (own_w hw 226 rfl)) Via.refl e900 F902 (g := (mkF m 56 #[.val (.ref a), .val (.ref b), .val (.ref b828), .unset, .unset, .unset] [(.ref a), (.ref b828)])) rfl rfl (hb hby own_d_prog_17_41_56)
  refine own_st (fun u_ k_ => st903 u_ k_) ?_
  show own_Go p e below _ (T903.setTop (mkF m 59 #[.val (.ref a), .val (.ref b), .val (.ref b828), .unset, .unset, .unset] [.null, (.ref b828)]))
  refine own_st (fun u_ k_ => XS.aloadN X903.here hx rfl (hb hby own_d_prog_17_41_59) rfl rfl k_) ?_
  have ne904 : b ≠ b828 := (Nat.ne_of_lt (Nat.lt_of_lt_of_le D0.lt (Nat.le_of_eq g828.symm)))
  have F905 := (Fld.other W900 (Fld.other W894 (Fld.other W888 (Fld.other W882 ((Fld.ext E828 D11).keep K838 (ninS ne904 nin0)) (Or.inl ne904)) (Or.inl ne904)) (Or.inl ne904)) (Or.inl ne904))
  obtain ⟨T906, X906, e906, st906⟩ := getF X903 hx hZ hown (host := "") (Or.inl (own_w hw 226 rfl)) Via.refl e903 F905 (g := (mkF m 60 #[.val (.ref a), .val (.ref b), .val (.ref b828), .unset, .unset, .unset] [(.ref b), .null, (.ref b828)])) rfl rfl (hb hby own_d_prog_17_41_60)
  refine own_st (fun u_ k_ => st906 u_ k_) ?_
  show own_Go p e below _ (T906.setTop (mkF m 63 #[.val (.ref a), .val (.ref b), .val (.ref b828), .unset, .unset, .unset] [.null, .null, (.ref b828)]))
  have O908 : Old Z n0 T838.heap := O834.keep K838 (allS g837 all0)
  have O909 : Old Z n0 h882 := O908.wr W882 g837
  have O910 : Old Z n0 h888 := O909.wr W888 g837
  have O911 : Old Z n0 h894 := O910.wr W894 g837
  have O912 : Old Z n0 h900 := O911.wr W900 g837
  obtain ⟨T907, v907, L907, X907, hQ907, st907⟩ := own_callS X906 hx hZ (y := own_y_652) hown (own_w hw 215 rfl) (own_w hw 216 rfl) (own_w hw 28 rfl) (own_w hw 217 rfl) own_lm_615 (rmEN l Z a0 hw [] w0 w1 w2 w3 wl wle wd mAL mUL mUR mOA wcs kle kd hS  h900 n0 O912 ) e906 own_pd_796 (argsL := [.null, .null]) (rest := [(.ref b828)]) rfl rfl (g := (mkF m 63 #[.val (.ref a), .val (.ref b), .val (.ref b828), .unset, .unset, .unset] [.null, .null, (.ref b828)])) rfl (by rw [hml]; rfl) rfl (hb hby own_d_prog_17_41_63) (W := 1) rfl (by decide) (by decide) (by decide) (by decide)
  obtain ⟨rfl, M907, e907⟩ := hQ907
  have N907 := Fr.app N900 M907
  refine own_st (fun u_ k_ => st907 u_ k_) ?_
  show own_Go p e below _ (T907.setTop (mkF m 66 #[.val (.ref a), .val (.ref b), .val (.ref b828), .unset, .unset, .unset] [.null, (.ref b828)]))
  refine own_st (X907.checkcastNull hx (g := (mkF m 66 #[.val (.ref a), .val (.ref b), .val (.ref b828), .unset, .unset, .unset] [.null, (.ref b828)])) rfl rfl (hb hby own_d_prog_17_41_66)) ?_
  show own_Go p e below _ (T907.setTop (mkF m 69 #[.val (.ref a), .val (.ref b), .val (.ref b828), .unset, .unset, .unset] [.null, (.ref b828)]))
  have F913 := (Exa.wr W900 F898)
  have F914 := (Fld.other W900 (Fld.other W894 (Fld.other W888 (Fld.other W882 F859 (Or.inr (own_sn_838 hw))) (Or.inr (own_sn_840 hw))) (Or.inr (own_sn_842 hw))) (Or.inr (own_sn_446 hw)))
  obtain ⟨T915, h915, X915, e915, W915, st915⟩ := putF X907 hx hZ hown (host := "") (Or.inl (own_w hw 226 rfl)) Via.refl e907 F914 F913 (Or.inl (own_w hw 227 rfl)) (own_w hw 27 rfl) (ty := (.object "java/lang/String")) own_lm_319 rfl rfl (g := (mkF m 69 #[.val (.ref a), .val (.ref b), .val (.ref b828), .unset, .unset, .unset] [.null, (.ref b828)])) rfl rfl (hb hby own_d_prog_17_41_69)
  have N915 := Fr.snoc X915 N907 g837
  have F916 : Fld Z h915 b828 own_c_235 "scope" "Ljava/lang/String;" .null := Fld.same W915 F914
  refine own_st (fun u_ k_ => st915 u_ k_) ?_
  show own_Go p e below _ (T915.setTop (mkF m 72 #[.val (.ref a), .val (.ref b), .val (.ref b828), .unset, .unset, .unset] []))
  refine own_st (fun u_ k_ => XS.aloadN X915.here hx rfl (hb hby own_d_prog_17_41_72) rfl rfl k_) ?_
  refine own_st (fun u_ k_ => XS.aloadN X915.here hx rfl (hb hby own_d_prog_17_41_73) rfl rfl k_) ?_
  show own_Go p e below _ (T915.setTop (mkF m 74 #[.val (.ref a), .val (.ref b), .val (.ref b828), .unset, .unset, .unset] [(.ref a), (.ref b828)]))
  have F917 := (Fld.other W915 (Fld.other W900 (Fld.other W894 (Fld.other W888 (Fld.other W882 ((Fld.ext E828 B12).keep K838 (ninS ne879 nin0)) (Or.inl ne879)) (Or.inl ne879)) (Or.inl ne879)) (Or.inl ne879)) (Or.inl ne879))
  obtain ⟨T918, X918, e918, st918⟩ := getF X915 hx hZ hown (host := "") (Or.inl (own_w hw 228 rfl)) Via.refl e915 F917 (g := (mkF m 74 #[.val (.ref a), .val (.ref b), .val (.ref b828), .unset, .unset, .unset] [(.ref a), (.ref b828)])) rfl rfl (hb hby own_d_prog_17_41_74)
  refine own_st (fun u_ k_ => st918 u_ k_) ?_
  show own_Go p e below _ (T918.setTop (mkF m 77 #[.val (.ref a), .val (.ref b), .val (.ref b828), .unset, .unset, .unset] [.null, (.ref b828)]))
  refine own_st (fun u_ k_ => XS.aloadN X918.here hx rfl (hb hby own_d_prog_17_41_77) rfl rfl k_) ?_
  have F919 := (Fld.other W915 (Fld.other W900 (Fld.other W894 (Fld.other W888 (Fld.other W882 ((Fld.ext E828 D12).keep K838 (ninS ne904 nin0)) (Or.inl ne904)) (Or.inl ne904)) (Or.inl ne904)) (Or.inl ne904)) (Or.inl ne904))
  obtain ⟨T920, X920, e920, st920⟩ := getF X918 hx hZ hown (host := "") (Or.inl (own_w hw 228 rfl)) Via.refl e918 F919 (g := (mkF m 78 #[.val (.ref a), .val (.ref b), .val (.ref b828), .unset, .unset, .unset] [(.ref b), .null, (.ref b828)])) rfl rfl (hb hby own_d_prog_17_41_78)
  refine own_st (fun u_ k_ => st920 u_ k_) ?_
  show own_Go p e below _ (T920.setTop (mkF m 81 #[.val (.ref a), .val (.ref b), .val (.ref b828), .unset, .unset, .unset] [.null, .null, (.ref b828)]))
  have O922 : Old Z n0 h915 := O912.wr W915 g837
  obtain ⟨T921, v921, L921, X921, hQ921, st921⟩ := own_callS X920 hx hZ (y := own_y_652) hown (own_w hw 215 rfl) (own_w hw 216 rfl) (own_w hw 28 rfl) (own_w hw 217 rfl) own_lm_615 (rmEN l Z a0 hw [] w0 w1 w2 w3 wl wle wd mAL mUL mUR mOA wcs kle kd hS  h915 n0 O922 ) e920 own_pd_796 (argsL := [.null, .null]) (rest := [(.ref b828)]) rfl rfl (g := (mkF m 81 #[.val (.ref a), .val (.ref b), .val (.ref b828), .unset, .unset, .unset] [.null, .null, (.ref b828)])) rfl (by rw [hml]; rfl) rfl (hb hby own_d_prog_17_41_81) (W := 1) rfl (by decide) (by decide) (by decide) (by decide)
  obtain ⟨rfl, M921, e921⟩ := hQ921
  have N921 := Fr.app N915 M921
  refine own_st (fun u_ k_ => st921 u_ k_) ?_
  show own_Go p e below _ (T921.setTop (mkF m 84 #[.val (.ref a), .val (.ref b), .val (.ref b828), .unset, .unset, .unset] [.null, (.ref b828)]))
  refine own_st (X921.checkcastNull hx (g := (mkF m 84 #[.val (.ref a), .val (.ref b), .val (.ref b828), .unset, .unset, .unset] [.null, (.ref b828)])) rfl rfl (hb hby own_d_prog_17_41_84)) ?_
  show own_Go p e below _ (T921.setTop (mkF m 87 #[.val (.ref a), .val (.ref b), .val (.ref b828), .unset, .unset, .unset] [.null, (.ref b828)]))
  have F923 := (Exa.wr W915 F913)
  have F924 := (Fld.other W915 (Fld.other W900 (Fld.other W894 (Fld.other W888 (Fld.other W882 F860 (Or.inr (own_sn_852 hw))) (Or.inr (own_sn_854 hw))) (Or.inr (own_sn_856 hw))) (Or.inr (own_sn_463 hw))) (Or.inr (own_sn_858 hw)))
  obtain ⟨T925, h925, X925, e925, W925, st925⟩ := putF X921 hx hZ hown (host := "") (Or.inl (own_w hw 228 rfl)) Via.refl e921 F924 F923 (Or.inl (own_w hw 229 rfl)) (own_w hw 27 rfl) (ty := (.object "java/lang/Boolean")) own_lm_462 rfl rfl (g := (mkF m 87 #[.val (.ref a), .val (.ref b), .val (.ref b828), .unset, .unset, .unset] [.null, (.ref b828)])) rfl rfl (hb hby own_d_prog_17_41_87)
  have N925 := Fr.snoc X925 N921 g837
  have F926 : Fld Z h925 b828 own_c_235 "lazyInit" "Ljava/lang/Boolean;" .null := Fld.same W925 F924
  refine own_st (fun u_ k_ => st925 u_ k_) ?_
  show own_Go p e below _ (T925.setTop (mkF m 90 #[.val (.ref a), .val (.ref b), .val (.ref b828), .unset, .unset, .unset] []))
  refine own_st (fun u_ k_ => XS.aloadN X925.here hx rfl (hb hby own_d_prog_17_41_90) rfl rfl k_) ?_
  refine own_st (fun u_ k_ => XS.aloadN X925.here hx rfl (hb hby own_d_prog_17_41_91) rfl rfl k_) ?_
  show own_Go p e below _ (T925.setTop (mkF m 92 #[.val (.ref a), .val (.ref b), .val (.ref b828), .unset, .unset, .unset] [(.ref a), (.ref b828)]))
  have F927 := (Fld.other W925 (Fld.other W915 (Fld.other W900 (Fld.other W894 (Fld.other W888 (Fld.other W882 ((Fld.ext E828 B7).keep K838 (ninS ne879 nin0)) (Or.inl ne879)) (Or.inl ne879)) (Or.inl ne879)) (Or.inl ne879)) (Or.inl ne879)) (Or.inl ne879))
  obtain ⟨T928, X928, e928, st928⟩ := getF X925 hx hZ hown (host := "") (Or.inl (own_w hw 147 rfl)) Via.refl e925 F927 (g := (mkF m 92 #[.val (.ref a), .val (.ref b), .val (.ref b828), .unset, .unset, .unset] [(.ref a), (.ref b828)])) rfl rfl (hb hby own_d_prog_17_41_92)
  refine own_st (fun u_ k_ => st928 u_ k_) ?_
  show own_Go p e below _ (T928.setTop (mkF m 95 #[.val (.ref a), .val (.ref b), .val (.ref b828), .unset, .unset, .unset] [u1, (.ref b828)]))
  refine own_st (fun u_ k_ => XS.aloadN X928.here hx rfl (hb hby own_d_prog_17_41_95) rfl rfl k_) ?_
  have F929 := (Fld.other W925 (Fld.other W915 (Fld.other W900 (Fld.other W894 (Fld.other W888 (Fld.other W882 ((Fld.ext E828 D7).keep K838 (ninS ne904 nin0)) (Or.inl ne904)) (Or.inl ne904)) (Or.inl ne904)) (Or.inl ne904)) (Or.inl ne904)) (Or.inl ne904))
  obtain ⟨T930, X930, e930, st930⟩ := getF X928 hx hZ hown (host := "") (Or.inl (own_w hw 147 rfl)) Via.refl e928 F929 (g := (mkF m 96 #[.val (.ref a), .val (.ref b), .val (.ref b828), .unset, .unset, .unset] [(.ref b), u1, (.ref b828)])) rfl rfl (hb hby own_d_prog_17_41_96)
  refine own_st (fun u_ k_ => st930 u_ k_) ?_
  show own_Go p e below _ (T930.setTop (mkF m 99 #[.val (.ref a), .val (.ref b), .val (.ref b828), .unset, .unset, .unset] [u2, u1, (.ref b828)]))
  have O932 : Old Z n0 h925 := O922.wr W925 g837
  obtain ⟨T931, v931, L931, X931, hQ931, st931⟩ := own_callS X930 hx hZ (y := own_y_652) hown (own_w hw 215 rfl) (own_w hw 216 rfl) (own_w hw 28 rfl) (own_w hw 217 rfl) own_lm_615 (rmEG l Z a0 hw [] w0 w1 w2 w3 wl wle wd mAL mUL mUR mOA wcs kle kd hS u1 u2 h925 n0 O932 hu1 hu2) e930 own_pd_796 (argsL := [u1, u2]) (rest := [(.ref b828)]) rfl rfl (g := (mkF m 99 #[.val (.ref a), .val (.ref b), .val (.ref b828), .unset, .unset, .unset] [u2, u1, (.ref b828)])) rfl (by rw [hml]; rfl) rfl (hb hby own_d_prog_17_41_99) (W := 1) rfl (by decide) (by decide) (by decide) (by decide)
  obtain ⟨rfl, M931, e931⟩ := hQ931
  have N931 := Fr.app N925 M931
  refine own_st (fun u_ k_ => st931 u_ k_) ?_
  show own_Go p e below _ (T931.setTop (mkF m 102 #[.val (.ref a), .val (.ref b), .val (.ref b828), .unset, .unset, .unset] [(own_or u1 u2), (.ref b828)]))
  rcases own_AWor aw1 aw2 with hq | ⟨wq, hq, Eq⟩
  · rw [hq]
    show own_Go p e below _ (T931.setTop (mkF m 102 #[.val (.ref a), .val (.ref b), .val (.ref b828), .unset, .unset, .unset] [.null, (.ref b828)]))
    refine own_st (X931.checkcastNull hx (g := (mkF m 102 #[.val (.ref a), .val (.ref b), .val (.ref b828), .unset, .unset, .unset] [.null, (.ref b828)])) rfl rfl (hb hby own_d_prog_17_41_102)) ?_
    show own_Go p e below _ (T931.setTop (mkF m 105 #[.val (.ref a), .val (.ref b), .val (.ref b828), .unset, .unset, .unset] [.null, (.ref b828)]))
    have F933 := (Exa.wr W925 F923)
    have F934 := (Fld.other W925 (Fld.other W915 (Fld.other W900 (Fld.other W894 (Fld.other W888 (Fld.other W882 F855 (Or.inr (own_sn_868 hw))) (Or.inr (own_sn_870 hw))) (Or.inr (own_sn_872 hw))) (Or.inr (own_sn_380 hw))) (Or.inr (own_sn_874 hw))) (Or.inr (own_sn_876 hw)))
    obtain ⟨T935, h935, X935, e935, W935, st935⟩ := putF X931 hx hZ hown (host := "") (Or.inl (own_w hw 147 rfl)) Via.refl e931 F934 F933 (Or.inl (own_w hw 148 rfl)) (own_w hw 27 rfl) (ty := (.object "com/example/temanggung/temanggung/beans/factory/Autowire")) own_lm_379 rfl rfl (g := (mkF m 105 #[.val (.ref a), .val (.ref b), .val (.ref b828), .unset, .unset, .unset] [.null, (.ref b828)])) rfl rfl (hb hby own_d_prog_17_41_105)
    have N935 := Fr.snoc X935 N931 g837
    have F936 : Fld Z h935 b828 own_c_235 "autowire" own_c_559 .null := Fld.same W935 F934
    refine own_st (fun u_ k_ => st935 u_ k_) ?_
    show own_Go p e below _ (T935.setTop (mkF m 108 #[.val (.ref a), .val (.ref b), .val (.ref b828), .unset, .unset, .unset] []))
    refine own_st (fun u_ k_ => XS.aloadN X935.here hx rfl (hb hby own_d_prog_17_41_108) rfl rfl k_) ?_
    refine own_st (fun u_ k_ => XS.aloadN X935.here hx rfl (hb hby own_d_prog_17_41_109) rfl rfl k_) ?_
    show own_Go p e below _ (T935.setTop (mkF m 110 #[.val (.ref a), .val (.ref b), .val (.ref b828), .unset, .unset, .unset] [(.ref a), (.ref b828)]))
    have F937 := (Fld.other W935 (Fld.other W925 (Fld.other W915 (Fld.other W900 (Fld.other W894 (Fld.other W888 (Fld.other W882 ((Fld.ext E828 B13).keep K838 (ninS ne879 nin0)) (Or.inl ne879)) (Or.inl ne879)) (Or.inl ne879)) (Or.inl ne879)) (Or.inl ne879)) (Or.inl ne879)) (Or.inl ne879))
    obtain ⟨T938, X938, e938, st938⟩ := getF X935 hx hZ hown (host := "") (Or.inl (own_w hw 232 rfl)) Via.refl e935 F937 (g := (mkF m 110 #[.val (.ref a), .val (.ref b), .val (.ref b828), .unset, .unset, .unset] [(.ref a), (.ref b828)])) rfl rfl (hb hby own_d_prog_17_41_110)
    refine own_st (fun u_ k_ => st938 u_ k_) ?_
    show own_Go p e below _ (T938.setTop (mkF m 113 #[.val (.ref a), .val (.ref b), .val (.ref b828), .unset, .unset, .unset] [.null, (.ref b828)]))
    refine own_st (fun u_ k_ => XS.aloadN X938.here hx rfl (hb hby own_d_prog_17_41_113) rfl rfl k_) ?_
    have F939 := (Fld.other W935 (Fld.other W925 (Fld.other W915 (Fld.other W900 (Fld.other W894 (Fld.other W888 (Fld.other W882 ((Fld.ext E828 D13).keep K838 (ninS ne904 nin0)) (Or.inl ne904)) (Or.inl ne904)) (Or.inl ne904)) (Or.inl ne904)) (Or.inl ne904)) (Or.inl ne904)) (Or.inl ne904))
    obtain ⟨T940, X940, e940, st940⟩ := getF X938 hx hZ hown (host := "") (Or.inl (own_w hw 232 rfl)) Via.refl e938 F939 (g := (mkF m 114 #[.val (.ref a), .val (.ref b), .val (.ref b828), .unset, .unset, .unset] [(.ref b), .null, (.ref b828)])) rfl rfl (hb hby own_d_prog_17_41_114)
    refine own_st (fun u_ k_ => st940 u_ k_) ?_
    show own_Go p e below _ (T940.setTop (mkF m 117 #[.val (.ref a), .val (.ref b), .val (.ref b828), .unset, .unset, .unset] [.null, .null, (.ref b828)]))
    have O942 : Old Z n0 h935 := O932.wr W935 g837
    obtain ⟨T941, v941, L941, X941, hQ941, st941⟩ := own_callS X940 hx hZ (y := own_y_652) hown (own_w hw 215 rfl) (own_w hw 216 rfl) (own_w hw 28 rfl) (own_w hw 217 rfl) own_lm_615 (rmEN l Z a0 hw [] w0 w1 w2 w3 wl wle wd mAL mUL mUR mOA wcs kle kd hS  h935 n0 O942 ) e940 own_pd_796 (argsL := [.null, .null]) (rest := [(.ref b828)]) rfl rfl (g := (mkF m 117 #[.val (.ref a), .val (.ref b), .val (.ref b828), .unset, .unset, .unset] [.null, .null, (.ref b828)])) rfl (by rw [hml]; rfl) rfl (hb hby own_d_prog_17_41_117) (W := 1) rfl (by decide) (by decide) (by decide) (by decide)
    obtain ⟨rfl, M941, e941⟩ := hQ941
    have N941 := Fr.app N935 M941
    refine own_st (fun u_ k_ => st941 u_ k_) ?_
    show own_Go p e below _ (T941.setTop (mkF m 120 #[.val (.ref a), .val (.ref b), .val (.ref b828), .unset, .unset, .unset] [.null, (.ref b828)]))
    refine own_st (X941.checkcastNull hx (g := (mkF m 120 #[.val (.ref a), .val (.ref b), .val (.ref b828), .unset, .unset, .unset] [.null, (.ref b828)])) rfl rfl (hb hby own_d_prog_17_41_120)) ?_
    show own_Go p e below _ (T941.setTop (mkF m 123 #[.val (.ref a), .val (.ref b), .val (.ref b828), .unset, .unset, .unset] [.null, (.ref b828)]))
    have F943 := (Exa.wr W935 F933)
    have F944 := (Fld.other W935 (Fld.other W925 (Fld.other W915 (Fld.other W900 (Fld.other W894 (Fld.other W888 (Fld.other W882 F861 (Or.inr (own_sn_886 hw))) (Or.inr (own_sn_888 hw))) (Or.inr (own_sn_890 hw))) (Or.inr (own_sn_479 hw))) (Or.inr (own_sn_892 hw))) (Or.inr (own_sn_894 hw))) (Or.inr (own_sn_638 hw)))
    obtain ⟨T945, h945, X945, e945, W945, st945⟩ := putF X941 hx hZ hown (host := "") (Or.inl (own_w hw 232 rfl)) Via.refl e941 F944 F943 (Or.inl (own_w hw 233 rfl)) (own_w hw 27 rfl) (ty := (.object "java/lang/String")) own_lm_319 rfl rfl (g := (mkF m 123 #[.val (.ref a), .val (.ref b), .val (.ref b828), .unset, .unset, .unset] [.null, (.ref b828)])) rfl rfl (hb hby own_d_prog_17_41_123)
    have N945 := Fr.snoc X945 N941 g837
    have F946 : Fld Z h945 b828 own_c_235 "factoryBeanName" "Ljava/lang/String;" .null := Fld.same W945 F944
    refine own_st (fun u_ k_ => st945 u_ k_) ?_
    show own_Go p e below _ (T945.setTop (mkF m 126 #[.val (.ref a), .val (.ref b), .val (.ref b828), .unset, .unset, .unset] []))
    refine own_st (fun u_ k_ => XS.aloadN X945.here hx rfl (hb hby own_d_prog_17_41_126) rfl rfl k_) ?_
    refine own_st (fun u_ k_ => XS.aloadN X945.here hx rfl (hb hby own_d_prog_17_41_127) rfl rfl k_) ?_
    show own_Go p e below _ (T945.setTop (mkF m 128 #[.val (.ref a), .val (.ref b), .val (.ref b828), .unset, .unset, .unset] [(.ref a), (.ref b828)]))
    have F947 := (Fld.other W945 (Fld.other W935 (Fld.other W925 (Fld.other W915 (Fld.other W900 (Fld.other W894 (Fld.other W888 (Fld.other W882 ((Fld.ext E828 B14).keep K838 (ninS ne879 nin0)) (Or.inl ne879)) (Or.inl ne879)) (Or.inl ne879)) (Or.inl ne879)) (Or.inl ne879)) (Or.inl ne879)) (Or.inl ne879)) (Or.inl ne879))
    obtain ⟨T948, X948, e948, st948⟩ := getF X945 hx hZ hown (host := "") (Or.inl (own_w hw 234 rfl)) Via.refl e945 F947 (g := (mkF m 128 #[.val (.ref a), .val (.ref b), .val (.ref b828), .unset, .unset, .unset] [(.ref a), (.ref b828)])) rfl rfl (hb hby own_d_prog_17_41_128)
    refine own_st (fun u_ k_ => st948 u_ k_) ?_
    show own_Go p e below _ (T948.setTop (mkF m 131 #[.val (.ref a), .val (.ref b), .val (.ref b828), .unset, .unset, .unset] [.null, (.ref b828)]))
    refine own_st (fun u_ k_ => XS.aloadN X948.here hx rfl (hb hby own_d_prog_17_41_131) rfl rfl k_) ?_
    have F949 := (Fld.other W945 (Fld.other W935 (Fld.other W925 (Fld.other W915 (Fld.other W900 (Fld.other W894 (Fld.other W888 (Fld.other W882 ((Fld.ext E828 D14).keep K838 (ninS ne904 nin0)) (Or.inl ne904)) (Or.inl ne904)) (Or.inl ne904)) (Or.inl ne904)) (Or.inl ne904)) (Or.inl ne904)) (Or.inl ne904)) (Or.inl ne904))
    obtain ⟨T950, X950, e950, st950⟩ := getF X948 hx hZ hown (host := "") (Or.inl (own_w hw 234 rfl)) Via.refl e948 F949 (g := (mkF m 132 #[.val (.ref a), .val (.ref b), .val (.ref b828), .unset, .unset, .unset] [(.ref b), .null, (.ref b828)])) rfl rfl (hb hby own_d_prog_17_41_132)
    refine own_st (fun u_ k_ => st950 u_ k_) ?_
    show own_Go p e below _ (T950.setTop (mkF m 135 #[.val (.ref a), .val (.ref b), .val (.ref b828), .unset, .unset, .unset] [.null, .null, (.ref b828)]))
    have O952 : Old Z n0 h945 := O942.wr W945 g837
    obtain ⟨T951, v951, L951, X951, hQ951, st951⟩ := own_callS X950 hx hZ (y := own_y_652) hown (own_w hw 215 rfl) (own_w hw 216 rfl) (own_w hw 28 rfl) (own_w hw 217 rfl) own_lm_615 (rmEN l Z a0 hw [] w0 w1 w2 w3 wl wle wd mAL mUL mUR mOA wcs kle kd hS  h945 n0 O952 ) e950 own_pd_796 (argsL := [.null, .null]) (rest := [(.ref b828)]) rfl rfl (g := (mkF m 135 #[.val (.ref a), .val (.ref b), .val (.ref b828), .unset, .unset, .unset] [.null, .null, (.ref b828)])) rfl (by rw [hml]; rfl) rfl (hb hby own_d_prog_17_41_135) (W := 1) rfl (by decide) (by decide) (by decide) (by decide)
    obtain ⟨rfl, M951, e951⟩ := hQ951
    have N951 := Fr.app N945 M951
    refine own_st (fun u_ k_ => st951 u_ k_) ?_
    show own_Go p e below _ (T951.setTop (mkF m 138 #[.val (.ref a), .val (.ref b), .val (.ref b828), .unset, .unset, .unset] [.null, (.ref b828)]))
    refine own_st (X951.checkcastNull hx (g := (mkF m 138 #[.val (.ref a), .val (.ref b), .val (.ref b828), .unset, .unset, .unset] [.null, (.ref b828)])) rfl rfl (hb hby own_d_prog_17_41_138)) ?_
    show own_Go p e below _ (T951.setTop (mkF m 141 #[.val (.ref a), .val (.ref b), .val (.ref b828), .unset, .unset, .unset] [.null, (.ref b828)]))
    have F953 := (Exa.wr W945 F943)
    have F954 := (Fld.other W945 (Fld.other W935 (Fld.other W925 (Fld.other W915 (Fld.other W900 (Fld.other W894 (Fld.other W888 (Fld.other W882 F862 (Or.inr (own_sn_904 hw))) (Or.inr (own_sn_906 hw))) (Or.inr (own_sn_908 hw))) (Or.inr (own_sn_495 hw))) (Or.inr (own_sn_910 hw))) (Or.inr (own_sn_912 hw))) (Or.inr (own_sn_640 hw))) (Or.inr (own_sn_914 hw)))
    obtain ⟨T955, h955, X955, e955, W955, st955⟩ := putF X951 hx hZ hown (host := "") (Or.inl (own_w hw 234 rfl)) Via.refl e951 F954 F953 (Or.inl (own_w hw 235 rfl)) (own_w hw 27 rfl) (ty := (.object "java/lang/String")) own_lm_319 rfl rfl (g := (mkF m 141 #[.val (.ref a), .val (.ref b), .val (.ref b828), .unset, .unset, .unset] [.null, (.ref b828)])) rfl rfl (hb hby own_d_prog_17_41_141)
    have N955 := Fr.snoc X955 N951 g837
    have F956 : Fld Z h955 b828 own_c_235 "factoryMethodName" "Ljava/lang/String;" .null := Fld.same W955 F954
    refine own_st (fun u_ k_ => st955 u_ k_) ?_
    show own_Go p e below _ (T955.setTop (mkF m 144 #[.val (.ref a), .val (.ref b), .val (.ref b828), .unset, .unset, .unset] []))
    refine own_st (fun u_ k_ => XS.aloadN X955.here hx rfl (hb hby own_d_prog_17_41_144) rfl rfl k_) ?_
    refine own_st (fun u_ k_ => XS.aloadN X955.here hx rfl (hb hby own_d_prog_17_41_145) rfl rfl k_) ?_
    show own_Go p e below _ (T955.setTop (mkF m 146 #[.val (.ref a), .val (.ref b), .val (.ref b828), .unset, .unset, .unset] [(.ref a), (.ref b828)]))
    have F957 := (Fld.other W955 (Fld.other W945 (Fld.other W935 (Fld.other W925 (Fld.other W915 (Fld.other W900 (Fld.other W894 (Fld.other W888 (Fld.other W882 ((Fld.ext E828 B2).keep K838 (ninS ne879 nin0)) (Or.inl ne879)) (Or.inl ne879)) (Or.inl ne879)) (Or.inl ne879)) (Or.inl ne879)) (Or.inl ne879)) (Or.inl ne879)) (Or.inl ne879)) (Or.inl ne879))
    obtain ⟨T958, X958, e958, st958⟩ := getF X955 hx hZ hown (host := "") (Or.inl (own_w hw 41 rfl)) Via.refl e955 F957 (g := (mkF m 146 #[.val (.ref a), .val (.ref b), .val (.ref b828), .unset, .unset, .unset] [(.ref a), (.ref b828)])) rfl rfl (hb hby own_d_prog_17_41_146)
    refine own_st (fun u_ k_ => st958 u_ k_) ?_
    show own_Go p e below _ (T958.setTop (mkF m 149 #[.val (.ref a), .val (.ref b), .val (.ref b828), .unset, .unset, .unset] [(.ref wl), (.ref b828)]))
    have O960 : Old Z n0 h955 := O952.wr W955 g837
    have F961 := Exa.ext O960.2 hS.2.2.2.2.2.2.2.2.2.2.2.1
    obtain ⟨T959, v959, L959, X959, hQ959, st959⟩ := own_callI X958 hx hZ (y := own_y_919) (z := own_y_662) hown (own_w hw 236 rfl) (own_w hw 237 rfl) (mvT hZ (own_w hw 238 rfl)) (own_w hw 239 rfl) (own_w hw 240 rfl) (own_w hw 241 rfl) (own_w hw 242 rfl) (own_w hw 243 rfl) (own_w hw 244 rfl) (own_w hw 245 rfl) own_lm_132 (rmLE l Z a0 hw [] w0 w1 w2 w3 wl wle wd mAL mUL mUR mOA wcs kle kd hS  h955 n0 O960 ) e958 F961 own_pd_230 (argsL := []) (rest := [(.ref b828)]) rfl rfl (g := (mkF m 149 #[.val (.ref a), .val (.ref b), .val (.ref b828), .unset, .unset, .unset] [(.ref wl), (.ref b828)])) rfl (by rw [hml]; rfl) rfl (hb hby own_d_prog_17_41_149) (W := 1) rfl (by decide) (by decide) (by decide) (by decide)
    obtain ⟨rfl, M959, e959⟩ := hQ959
    have N959 := Fr.app N955 M959
    refine own_st (fun u_ k_ => st959 u_ k_) ?_
    show own_Go p e below _ (T959.setTop (mkF m 154 #[.val (.ref a), .val (.ref b), .val (.ref b828), .unset, .unset, .unset] [(.int (1 : Int32)), (.ref b828)]))
    refine own_st (fun u_ k_ => XS.ifNo X959.here hx rfl (hb hby own_d_prog_17_41_154) rfl (XT.i0_eq_f (by decide)) k_) ?_
    refine own_st (fun u_ k_ => XS.aloadN X959.here hx rfl (hb hby own_d_prog_17_41_157) rfl rfl k_) ?_
    show own_Go p e below _ (T959.setTop (mkF m 158 #[.val (.ref a), .val (.ref b), .val (.ref b828), .unset, .unset, .unset] [(.ref b), (.ref b828)]))
    have F962 := (Fld.other W955 (Fld.other W945 (Fld.other W935 (Fld.other W925 (Fld.other W915 (Fld.other W900 (Fld.other W894 (Fld.other W888 (Fld.other W882 ((Fld.ext E828 D2).keep K838 (ninS ne904 nin0)) (Or.inl ne904)) (Or.inl ne904)) (Or.inl ne904)) (Or.inl ne904)) (Or.inl ne904)) (Or.inl ne904)) (Or.inl ne904)) (Or.inl ne904)) (Or.inl ne904))
    obtain ⟨T963, X963, e963, st963⟩ := getF X959 hx hZ hown (host := "") (Or.inl (own_w hw 41 rfl)) Via.refl e959 F962 (g := (mkF m 158 #[.val (.ref a), .val (.ref b), .val (.ref b828), .unset, .unset, .unset] [(.ref b), (.ref b828)])) rfl rfl (hb hby own_d_prog_17_41_158)
    refine own_st (fun u_ k_ => st963 u_ k_) ?_
    show own_Go p e below _ (T963.setTop (mkF m 161 #[.val (.ref a), .val (.ref b), .val (.ref b828), .unset, .unset, .unset] [(.ref wl), (.ref b828)]))
    refine own_st (fun u_ k_ => XS.goto X963.here hx rfl (pc0 := 161) (pc' := 168) rfl (hb hby own_d_prog_17_41_161) (by decide) (by decide) k_) ?_
    have F964 := (Exa.wr W955 F953)
    have F965 := (Fld.other W955 (Fld.other W945 (Fld.other W935 (Fld.other W925 (Fld.other W915 (Fld.other W900 (Fld.other W894 (Fld.other W888 (Fld.other W882 F850 (Or.inr (own_sn_926 hw))) (Or.inr (own_sn_928 hw))) (Or.inr (own_sn_930 hw))) (Or.inr (own_sn_246 hw))) (Or.inr (own_sn_932 hw))) (Or.inr (own_sn_934 hw))) (Or.inr (own_sn_620 hw))) (Or.inr (own_sn_936 hw))) (Or.inr (own_sn_938 hw)))
    obtain ⟨T966, h966, X966, e966, W966, st966⟩ := putF X963 hx hZ hown (host := "") (Or.inl (own_w hw 41 rfl)) Via.refl e963 F965 F964 (Or.inl (own_w hw 42 rfl)) (own_w hw 27 rfl) (ty := (.object "java/util/List")) own_lm_104 rfl rfl (g := (mkF m 168 #[.val (.ref a), .val (.ref b), .val (.ref b828), .unset, .unset, .unset] [(.ref wl), (.ref b828)])) rfl rfl (hb hby own_d_prog_17_41_168)
    have N966 := Fr.snoc X966 N959 g837
    have F967 : Fld Z h966 b828 own_c_235 "dependsOn" "Ljava/util/List;" (.ref wl) := Fld.same W966 F965
    refine own_st (fun u_ k_ => st966 u_ k_) ?_
    show own_Go p e below _ (T966.setTop (mkF m 171 #[.val (.ref a), .val (.ref b), .val (.ref b828), .unset, .unset, .unset] []))
    refine own_st (fun u_ k_ => XS.aloadN X966.here hx rfl (hb hby own_d_prog_17_41_171) rfl rfl k_) ?_
    have F968 := (Fld.other W966 (Fld.other W955 (Fld.other W945 (Fld.other W935 (Fld.other W925 (Fld.other W915 (Fld.other W900 (Fld.other W894 (Fld.other W888 (Fld.other W882 F851 (Or.inr (own_sn_942 hw))) (Or.inr (own_sn_944 hw))) (Or.inr (own_sn_946 hw))) (Or.inr (own_sn_254 hw))) (Or.inr (own_sn_948 hw))) (Or.inr (own_sn_950 hw))) (Or.inr (own_sn_622 hw))) (Or.inr (own_sn_952 hw))) (Or.inr (own_sn_954 hw))) (Or.inr (own_sn_256 hw)))
    obtain ⟨T969, X969, e969, st969⟩ := getF X966 hx hZ hown (host := "") (Or.inl (own_w hw 67 rfl)) Via.refl e966 F968 (g := (mkF m 172 #[.val (.ref a), .val (.ref b), .val (.ref b828), .unset, .unset, .unset] [(.ref b828)])) rfl rfl (hb hby own_d_prog_17_41_172)
    refine own_st (fun u_ k_ => st969 u_ k_) ?_
    show own_Go p e below _ (T969.setTop (mkF m 175 #[.val (.ref a), .val (.ref b), .val (.ref b828), .unset, .unset, .unset] [(.ref ca_839)]))
    refine own_st (fun u_ k_ => XS.aloadN X969.here hx rfl (hb hby own_d_prog_17_41_175) rfl rfl k_) ?_
    have F970 := (Fld.other W966 (Fld.other W955 (Fld.other W945 (Fld.other W935 (Fld.other W925 (Fld.other W915 (Fld.other W900 (Fld.other W894 (Fld.other W888 (Fld.other W882 ((Fld.ext E828 B3).keep K838 (ninS ne879 nin0)) (Or.inl ne879)) (Or.inl ne879)) (Or.inl ne879)) (Or.inl ne879)) (Or.inl ne879)) (Or.inl ne879)) (Or.inl ne879)) (Or.inl ne879)) (Or.inl ne879)) (Or.inl ne879))
    obtain ⟨T971, X971, e971, st971⟩ := getF X969 hx hZ hown (host := "") (Or.inl (own_w hw 67 rfl)) Via.refl e969 F970 (g := (mkF m 176 #[.val (.ref a), .val (.ref b), .val (.ref b828), .unset, .unset, .unset] [(.ref a), (.ref ca_839)])) rfl rfl (hb hby own_d_prog_17_41_176)
    refine own_st (fun u_ k_ => st971 u_ k_) ?_
    show own_Go p e below _ (T971.setTop (mkF m 179 #[.val (.ref a), .val (.ref b), .val (.ref b828), .unset, .unset, .unset] [(.ref ca), (.ref ca_839)]))
    have ne972 : ca ≠ b828 := (Nat.ne_of_lt (Nat.lt_of_lt_of_le L0.lt (Nat.le_of_eq g828.symm)))
    have F973 := (Fld.other W966 (Fld.other W955 (Fld.other W945 (Fld.other W935 (Fld.other W925 (Fld.other W915 (Fld.other W900 (Fld.other W894 (Fld.other W888 (Fld.other W882 ((Fld.ext E828 L2).keep K838 (ninS ne972 nin0)) (Or.inl ne972)) (Or.inl ne972)) (Or.inl ne972)) (Or.inl ne972)) (Or.inl ne972)) (Or.inl ne972)) (Or.inl ne972)) (Or.inl ne972)) (Or.inl ne972)) (Or.inl ne972))
    have O975 : Old Z n0 h966 := O960.wr W966 g837
    have F976 := (Exa.wr W966 (Exa.wr W955 (Exa.wr W945 (Exa.wr W935 (Exa.wr W925 (Exa.wr W915 (Exa.wr W900 (Exa.wr W894 (Exa.wr W888 (Exa.wr W882 ((Exa.ext E828 L0).keep K838)))))))))))
    obtain ⟨T974, v974, L974, X974, hQ974, st974⟩ := own_callI X971 hx hZ (y := own_y_919) (z := own_y_670) hown (own_w hw 236 rfl) (own_w hw 237 rfl) (mvT hZ (own_w hw 238 rfl)) (own_w hw 248 rfl) (own_w hw 249 rfl) (own_w hw 250 rfl) (own_w hw 251 rfl) (own_w hw 80 rfl) (own_w hw 45 rfl) (own_w hw 252 rfl) own_lm_132 (rmAE l Z a0 hw [] w0 w1 w2 w3 wl wle wd mAL mUL mUR mOA wcs kle kd hS ca h966 n0 O975 F973) e971 F976 own_pd_230 (argsL := []) (rest := [(.ref ca_839)]) rfl rfl (g := (mkF m 179 #[.val (.ref a), .val (.ref b), .val (.ref b828), .unset, .unset, .unset] [(.ref ca), (.ref ca_839)])) rfl (by rw [hml]; rfl) rfl (hb hby own_d_prog_17_41_179) (W := 1) rfl (by decide) (by decide) (by decide) (by decide)
    obtain ⟨rfl, M974, e974⟩ := hQ974
    have N974 := Fr.app N966 M974
    refine own_st (fun u_ k_ => st974 u_ k_) ?_
    show own_Go p e below _ (T974.setTop (mkF m 184 #[.val (.ref a), .val (.ref b), .val (.ref b828), .unset, .unset, .unset] [(.int (1 : Int32)), (.ref ca_839)]))
    refine own_st (fun u_ k_ => XS.ifNo X974.here hx rfl (hb hby own_d_prog_17_41_184) rfl (XT.i0_eq_f (by decide)) k_) ?_
    refine own_st (fun u_ k_ => XS.aloadN X974.here hx rfl (hb hby own_d_prog_17_41_187) rfl rfl k_) ?_
    show own_Go p e below _ (T974.setTop (mkF m 188 #[.val (.ref a), .val (.ref b), .val (.ref b828), .unset, .unset, .unset] [(.ref b), (.ref ca_839)]))
    have F977 := (Fld.other W966 (Fld.other W955 (Fld.other W945 (Fld.other W935 (Fld.other W925 (Fld.other W915 (Fld.other W900 (Fld.other W894 (Fld.other W888 (Fld.other W882 ((Fld.ext E828 D3).keep K838 (ninS ne904 nin0)) (Or.inl ne904)) (Or.inl ne904)) (Or.inl ne904)) (Or.inl ne904)) (Or.inl ne904)) (Or.inl ne904)) (Or.inl ne904)) (Or.inl ne904)) (Or.inl ne904)) (Or.inl ne904))
    obtain ⟨T978, X978, e978, st978⟩ := getF X974 hx hZ hown (host := "") (Or.inl (own_w hw 67 rfl)) Via.refl e974 F977 (g := (mkF m 188 #[.val (.ref a), .val (.ref b), .val (.ref b828), .unset, .unset, .unset] [(.ref b), (.ref ca_839)])) rfl rfl (hb hby own_d_prog_17_41_188)
    refine own_st (fun u_ k_ => st978 u_ k_) ?_
    show own_Go p e below _ (T978.setTop (mkF m 191 #[.val (.ref a), .val (.ref b), .val (.ref b828), .unset, .unset, .unset] [(.ref ca2), (.ref ca_839)]))
    refine own_st (fun u_ k_ => XS.goto X978.here hx rfl (pc0 := 191) (pc' := 198) rfl (hb hby own_d_prog_17_41_191) (by decide) (by decide) k_) ?_
    have F979 := (Exa.wr W966 (Exa.wr W955 (Exa.wr W945 (Exa.wr W935 (Exa.wr W925 (Exa.wr W915 (Exa.wr W900 (Exa.wr W894 (Exa.wr W888 (Exa.wr W882 F866))))))))))
    have g980 : n0 ≤ ca_839 := Nat.le_trans (own_nl O834) z844
    have ne981 : ca_839 ≠ b828 := (Ne.symm (Nat.ne_of_lt (Nat.lt_of_lt_of_le F828_constructorArgumentsView.lt z844)))
    have F982 := (Fld.other W966 (Fld.other W955 (Fld.other W945 (Fld.other W935 (Fld.other W925 (Fld.other W915 (Fld.other W900 (Fld.other W894 (Fld.other W888 (Fld.other W882 F867 (Or.inl ne981)) (Or.inl ne981)) (Or.inl ne981)) (Or.inl ne981)) (Or.inl ne981)) (Or.inl ne981)) (Or.inl ne981)) (Or.inl ne981)) (Or.inl ne981)) (Or.inl ne981))
    have F983 := (Exa.wr W966 (Exa.wr W955 (Exa.wr W945 (Exa.wr W935 (Exa.wr W925 (Exa.wr W915 (Exa.wr W900 (Exa.wr W894 (Exa.wr W888 (Exa.wr W882 ((Exa.ext E828 L2_0).keep K838)))))))))))
    have ne984 : ca2 ≠ b828 := (Nat.ne_of_lt (Nat.lt_of_lt_of_le L2_0.lt (Nat.le_of_eq g828.symm)))
    have F985 := (Fld.other W966 (Fld.other W955 (Fld.other W945 (Fld.other W935 (Fld.other W925 (Fld.other W915 (Fld.other W900 (Fld.other W894 (Fld.other W888 (Fld.other W882 ((Fld.ext E828 L2_2).keep K838 (ninS ne984 nin0)) (Or.inl ne984)) (Or.inl ne984)) (Or.inl ne984)) (Or.inl ne984)) (Or.inl ne984)) (Or.inl ne984)) (Or.inl ne984)) (Or.inl ne984)) (Or.inl ne984)) (Or.inl ne984))
    have F986 := (Fld.other W966 (Fld.other W955 (Fld.other W945 (Fld.other W935 (Fld.other W925 (Fld.other W915 (Fld.other W900 (Fld.other W894 (Fld.other W888 (Fld.other W882 ((Fld.ext E828 L2_3).keep K838 (ninS ne984 nin0)) (Or.inl ne984)) (Or.inl ne984)) (Or.inl ne984)) (Or.inl ne984)) (Or.inl ne984)) (Or.inl ne984)) (Or.inl ne984)) (Or.inl ne984)) (Or.inl ne984)) (Or.inl ne984))
    obtain ⟨T987, v987, L987, X987, hQ987, st987⟩ := own_callI X978 hx hZ (y := own_y_963) (z := own_y_736) hown (own_w hw 255 rfl) (own_w hw 256 rfl) (mvT hZ (own_w hw 257 rfl)) (own_w hw 258 rfl) (own_w hw 259 rfl) (own_w hw 260 rfl) (own_w hw 261 rfl) (own_w hw 80 rfl) (own_w hw 45 rfl) (own_w hw 262 rfl) own_lm_132 (rmAA l Z a0 hw [] w0 w1 w2 w3 wl wle wd mAL mUL mUR mOA wcs kle kd hS ca_839 ca2 h966 n0 O975 F979 g980 F982 F983 F985 F986) e978 F979 own_pd_964 (argsL := [(.ref ca2)]) (rest := []) rfl rfl (g := (mkF m 198 #[.val (.ref a), .val (.ref b), .val (.ref b828), .unset, .unset, .unset] [(.ref ca2), (.ref ca_839)])) rfl (by rw [hml]; rfl) rfl (hb hby own_d_prog_17_41_198) (W := 0) rfl (by decide) (by decide) (by decide) (by decide)
    obtain ⟨rfl, M987, K987, F988⟩ := hQ987
    have N987 := Fr.app N974 M987
    refine own_st (fun u_ k_ => st987 u_ k_) ?_
    show own_Go p e below _ (T987.setTop (mkF m 203 #[.val (.ref a), .val (.ref b), .val (.ref b828), .unset, .unset, .unset] [(.int (0 : Int32))]))
    refine own_st (fun u_ k_ => XS.pop X987.here hx rfl (hb hby own_d_prog_17_41_203) rfl rfl k_) ?_
    refine own_st (fun u_ k_ => XS.aloadN X987.here hx rfl (hb hby own_d_prog_17_41_204) rfl rfl k_) ?_
    show own_Go p e below _ (T987.setTop (mkF m 205 #[.val (.ref a), .val (.ref b), .val (.ref b828), .unset, .unset, .unset] [(.ref b828)]))
    have F989 := ((Fld.other W966 (Fld.other W955 (Fld.other W945 (Fld.other W935 (Fld.other W925 (Fld.other W915 (Fld.other W900 (Fld.other W894 (Fld.other W888 (Fld.other W882 F852 (Or.inr (own_sn_969 hw))) (Or.inr (own_sn_971 hw))) (Or.inr (own_sn_973 hw))) (Or.inr (own_sn_276 hw))) (Or.inr (own_sn_975 hw))) (Or.inr (own_sn_977 hw))) (Or.inr (own_sn_624 hw))) (Or.inr (own_sn_979 hw))) (Or.inr (own_sn_981 hw))) (Or.inr (own_sn_278 hw))).keep K987 (ninS (Ne.symm ne981) nin0))
    obtain ⟨T990, X990, e990, st990⟩ := getF X987 hx hZ hown (host := "") (Or.inl (own_w hw 114 rfl)) Via.refl rfl F989 (g := (mkF m 205 #[.val (.ref a), .val (.ref b), .val (.ref b828), .unset, .unset, .unset] [(.ref b828)])) rfl rfl (hb hby own_d_prog_17_41_205)
    refine own_st (fun u_ k_ => st990 u_ k_) ?_
    show own_Go p e below _ (T990.setTop (mkF m 208 #[.val (.ref a), .val (.ref b), .val (.ref b828), .unset, .unset, .unset] [(.ref pv_840)]))
    refine own_st (fun u_ k_ => XS.aloadN X990.here hx rfl (hb hby own_d_prog_17_41_208) rfl rfl k_) ?_
    have ne991 : b ≠ ca_839 := (Nat.ne_of_lt (Nat.lt_of_lt_of_le F831.lt z844))
    have F992 := ((Fld.other W966 (Fld.other W955 (Fld.other W945 (Fld.other W935 (Fld.other W925 (Fld.other W915 (Fld.other W900 (Fld.other W894 (Fld.other W888 (Fld.other W882 ((Fld.ext E828 D4).keep K838 (ninS ne904 nin0)) (Or.inl ne904)) (Or.inl ne904)) (Or.inl ne904)) (Or.inl ne904)) (Or.inl ne904)) (Or.inl ne904)) (Or.inl ne904)) (Or.inl ne904)) (Or.inl ne904)) (Or.inl ne904)).keep K987 (ninS ne991 nin0))
    obtain ⟨T993, X993, e993, st993⟩ := getF X990 hx hZ hown (host := "") (Or.inl (own_w hw 114 rfl)) Via.refl e990 F992 (g := (mkF m 209 #[.val (.ref a), .val (.ref b), .val (.ref b828), .unset, .unset, .unset] [(.ref b), (.ref pv_840)])) rfl rfl (hb hby own_d_prog_17_41_209)
    refine own_st (fun u_ k_ => st993 u_ k_) ?_
    show own_Go p e below _ (T993.setTop (mkF m 212 #[.val (.ref a), .val (.ref b), .val (.ref b828), .unset, .unset, .unset] [(.ref pv2), (.ref pv_840)]))
    have F994 := ((Exa.wr W966 (Exa.wr W955 (Exa.wr W945 (Exa.wr W935 (Exa.wr W925 (Exa.wr W915 (Exa.wr W900 (Exa.wr W894 (Exa.wr W888 (Exa.wr W882 F870)))))))))).keep K987)
    have g995 : n0 ≤ pv_840 := Nat.le_trans (own_nl O834) z845
    have ne996 : pv_840 ≠ b828 := (Ne.symm (Nat.ne_of_lt (Nat.lt_of_lt_of_le F828_constructorArgumentsView.lt z845)))
    have F997 := ((Fld.other W966 (Fld.other W955 (Fld.other W945 (Fld.other W935 (Fld.other W925 (Fld.other W915 (Fld.other W900 (Fld.other W894 (Fld.other W888 (Fld.other W882 F871 (Or.inl ne996)) (Or.inl ne996)) (Or.inl ne996)) (Or.inl ne996)) (Or.inl ne996)) (Or.inl ne996)) (Or.inl ne996)) (Or.inl ne996)) (Or.inl ne996)) (Or.inl ne996)).keep K987 (ninS (Ne.symm ne_878) nin0))
    have F998 := ((Exa.wr W966 (Exa.wr W955 (Exa.wr W945 (Exa.wr W935 (Exa.wr W925 (Exa.wr W915 (Exa.wr W900 (Exa.wr W894 (Exa.wr W888 (Exa.wr W882 ((Exa.ext E828 M2_0).keep K838))))))))))).keep K987)
    have ne999 : pv2 ≠ b828 := (Nat.ne_of_lt (Nat.lt_of_lt_of_le M2_0.lt (Nat.le_of_eq g828.symm)))
    have ne1000 : pv2 ≠ ca_839 := (Nat.ne_of_lt (Nat.lt_of_lt_of_le (Nat.lt_of_lt_of_le M2_0.lt E828.1) z844))
    have F1001 := ((Fld.other W966 (Fld.other W955 (Fld.other W945 (Fld.other W935 (Fld.other W925 (Fld.other W915 (Fld.other W900 (Fld.other W894 (Fld.other W888 (Fld.other W882 ((Fld.ext E828 M2_2).keep K838 (ninS ne999 nin0)) (Or.inl ne999)) (Or.inl ne999)) (Or.inl ne999)) (Or.inl ne999)) (Or.inl ne999)) (Or.inl ne999)) (Or.inl ne999)) (Or.inl ne999)) (Or.inl ne999)) (Or.inl ne999)).keep K987 (ninS ne1000 nin0))
    have F1002 := ((Fld.other W966 (Fld.other W955 (Fld.other W945 (Fld.other W935 (Fld.other W925 (Fld.other W915 (Fld.other W900 (Fld.other W894 (Fld.other W888 (Fld.other W882 ((Fld.ext E828 M2_3).keep K838 (ninS ne999 nin0)) (Or.inl ne999)) (Or.inl ne999)) (Or.inl ne999)) (Or.inl ne999)) (Or.inl ne999)) (Or.inl ne999)) (Or.inl ne999)) (Or.inl ne999)) (Or.inl ne999)) (Or.inl ne999)).keep K987 (ninS ne1000 nin0))
    have O1004 : Old Z n0 T987.heap := O975.keep K987 (allS g980 all0)
    obtain ⟨T1003, v1003, L1003, X1003, hQ1003, st1003⟩ := own_callI X993 hx hZ (y := own_y_963) (z := own_y_736) hown (own_w hw 255 rfl) (own_w hw 256 rfl) (mvT hZ (own_w hw 257 rfl)) (own_w hw 258 rfl) (own_w hw 259 rfl) (own_w hw 260 rfl) (own_w hw 261 rfl) (own_w hw 80 rfl) (own_w hw 45 rfl) (own_w hw 262 rfl) own_lm_132 (rmAA l Z a0 hw [] w0 w1 w2 w3 wl wle wd mAL mUL mUR mOA wcs kle kd hS pv_840 pv2 T987.heap n0 O1004 F994 g995 F997 F998 F1001 F1002) e993 F994 own_pd_964 (argsL := [(.ref pv2)]) (rest := []) rfl rfl (g := (mkF m 212 #[.val (.ref a), .val (.ref b), .val (.ref b828), .unset, .unset, .unset] [(.ref pv2), (.ref pv_840)])) rfl (by rw [hml]; rfl) rfl (hb hby own_d_prog_17_41_212) (W := 0) rfl (by decide) (by decide) (by decide) (by decide)
    obtain ⟨rfl, M1003, K1003, F1005⟩ := hQ1003
    have N1003 := Fr.app N987 M1003
    refine own_st (fun u_ k_ => st1003 u_ k_) ?_
    show own_Go p e below _ (T1003.setTop (mkF m 217 #[.val (.ref a), .val (.ref b), .val (.ref b828), .unset, .unset, .unset] [(.int (0 : Int32))]))
    refine own_st (fun u_ k_ => XS.pop X1003.here hx rfl (hb hby own_d_prog_17_41_217) rfl rfl k_) ?_
    refine own_st (fun u_ k_ => XS.aloadN X1003.here hx rfl (hb hby own_d_prog_17_41_218) rfl rfl k_) ?_
    show own_Go p e below _ (T1003.setTop (mkF m 219 #[.val (.ref a), .val (.ref b), .val (.ref b828), .unset, .unset, .unset] [(.ref a)]))
    have ne1006 : a ≠ ca_839 := (Nat.ne_of_lt (Nat.lt_of_lt_of_le F829.lt z844))
    have ne1007 : a ≠ pv_840 := (Nat.ne_of_lt (Nat.lt_of_lt_of_le F829.lt z845))
    have F1008 := (((Fld.other W966 (Fld.other W955 (Fld.other W945 (Fld.other W935 (Fld.other W925 (Fld.other W915 (Fld.other W900 (Fld.other W894 (Fld.other W888 (Fld.other W882 ((Fld.ext E828 B4).keep K838 (ninS ne879 nin0)) (Or.inl ne879)) (Or.inl ne879)) (Or.inl ne879)) (Or.inl ne879)) (Or.inl ne879)) (Or.inl ne879)) (Or.inl ne879)) (Or.inl ne879)) (Or.inl ne879)) (Or.inl ne879)).keep K987 (ninS ne1006 nin0)).keep K1003 (ninS ne1007 nin0))
    obtain ⟨T1009, X1009, e1009, st1009⟩ := getF X1003 hx hZ hown (host := "") (Or.inl (own_w hw 114 rfl)) Via.refl rfl F1008 (g := (mkF m 219 #[.val (.ref a), .val (.ref b), .val (.ref b828), .unset, .unset, .unset] [(.ref a)])) rfl rfl (hb hby own_d_prog_17_41_219)
    refine own_st (fun u_ k_ => st1009 u_ k_) ?_
    show own_Go p e below _ (T1009.setTop (mkF m 222 #[.val (.ref a), .val (.ref b), .val (.ref b828), .unset, .unset, .unset] [(.ref pv)]))
    have F1010 := (((Exa.wr W966 (Exa.wr W955 (Exa.wr W945 (Exa.wr W935 (Exa.wr W925 (Exa.wr W915 (Exa.wr W900 (Exa.wr W894 (Exa.wr W888 (Exa.wr W882 ((Exa.ext E828 M0).keep K838))))))))))).keep K987).keep K1003)
    have ne1011 : pv ≠ b828 := (Nat.ne_of_lt (Nat.lt_of_lt_of_le M0.lt (Nat.le_of_eq g828.symm)))
    have ne1012 : pv ≠ ca_839 := (Nat.ne_of_lt (Nat.lt_of_lt_of_le (Nat.lt_of_lt_of_le M0.lt E828.1) z844))
    have ne1013 : pv ≠ pv_840 := (Nat.ne_of_lt (Nat.lt_of_lt_of_le (Nat.lt_of_lt_of_le M0.lt E828.1) z845))
    have F1014 := (((Fld.other W966 (Fld.other W955 (Fld.other W945 (Fld.other W935 (Fld.other W925 (Fld.other W915 (Fld.other W900 (Fld.other W894 (Fld.other W888 (Fld.other W882 ((Fld.ext E828 M1).keep K838 (ninS ne1011 nin0)) (Or.inl ne1011)) (Or.inl ne1011)) (Or.inl ne1011)) (Or.inl ne1011)) (Or.inl ne1011)) (Or.inl ne1011)) (Or.inl ne1011)) (Or.inl ne1011)) (Or.inl ne1011)) (Or.inl ne1011)).keep K987 (ninS ne1012 nin0)).keep K1003 (ninS ne1013 nin0))
    have O1016 : Old Z n0 T1003.heap := O1004.keep K1003 (allS g995 all0)
    obtain ⟨T1015, v1015, L1015, X1015, hQ1015, st1015⟩ := own_callI X1009 hx hZ (y := own_y_223) (z := own_y_779) hown (own_w hw 171 rfl) (own_w hw 172 rfl) (mvT hZ (own_w hw 173 rfl)) (own_w hw 294 rfl) (own_w hw 295 rfl) (own_w hw 296 rfl) (own_w hw 297 rfl) (own_w hw 80 rfl) (own_w hw 45 rfl) (own_w hw 298 rfl) own_lm_132 (rmAI l Z a0 hw [] w0 w1 w2 w3 wl wle wd mAL mUL mUR mOA wcs kle kd hS pv T1003.heap n0 O1016 F1010 F1014) e1009 F1010 own_pd_224 (argsL := []) (rest := []) rfl rfl (g := (mkF m 222 #[.val (.ref a), .val (.ref b), .val (.ref b828), .unset, .unset, .unset] [(.ref pv)])) rfl (by rw [hml]; rfl) rfl (hb hby own_d_prog_17_41_222) (W := 0) rfl (by decide) (by decide) (by decide) (by decide)
    obtain ⟨r_1017, rfl, M1015, K1015, z1018, F1019, F1020, F1021⟩ := hQ1015
    have N1015 := Fr.app N1003 M1015
    refine own_st (fun u_ k_ => st1015 u_ k_) ?_
    show own_Go p e below _ (T1015.setTop (mkF m 227 #[.val (.ref a), .val (.ref b), .val (.ref b828), .unset, .unset, .unset] [(.ref r_1017)]))
    refine own_st (fun u_ k_ => XS.astoreN X1015.here hx rfl (hb hby own_d_prog_17_41_227) rfl rfl (l' := #[.val (.ref a), .val (.ref b), .val (.ref b828), .val (.ref r_1017), .unset, .unset]) rfl k_) ?_
    refine own_st (fun u_ k_ => XS.aloadN X1015.here hx rfl (hb hby own_d_prog_17_41_228) rfl rfl k_) ?_
    show own_Go p e below _ (T1015.setTop (mkF m 229 #[.val (.ref a), .val (.ref b), .val (.ref b828), .val (.ref r_1017), .unset, .unset] [(.ref r_1017)]))
    have F1022 := ((((Fld.other W966 (Fld.other W955 (Fld.other W945 (Fld.other W935 (Fld.other W925 (Fld.other W915 (Fld.other W900 (Fld.other W894 (Fld.other W888 (Fld.other W882 ((Fld.ext E828 M2).keep K838 (ninS ne1011 nin0)) (Or.inl ne1011)) (Or.inl ne1011)) (Or.inl ne1011)) (Or.inl ne1011)) (Or.inl ne1011)) (Or.inl ne1011)) (Or.inl ne1011)) (Or.inl ne1011)) (Or.inl ne1011)) (Or.inl ne1011)).keep K987 (ninS ne1012 nin0)).keep K1003 (ninS ne1013 nin0)).keep K1015 nin0)
    have O1024 : Old Z n0 T1015.heap := O1016.keep K1015 all0
    obtain ⟨T1023, v1023, L1023, X1023, hQ1023, st1023⟩ := own_callI X1015 hx hZ (y := own_y_228) (z := own_y_788) hown (own_w hw 197 rfl) (own_w hw 198 rfl) (mvT hZ (own_w hw 199 rfl)) (own_w hw 314 rfl) (own_w hw 315 rfl) (own_w hw 316 rfl) (own_w hw 317 rfl) (own_w hw 318 rfl) (own_w hw 301 rfl) (own_w hw 319 rfl) own_lm_229 (rmIH l Z a0 hw [] w0 w1 w2 w3 wl wle wd mAL mUL mUR mOA wcs kle kd hS r_1017 pv T1015.heap n0 O1024 F1020 F1021 F1022) rfl F1019 own_pd_230 (argsL := []) (rest := []) rfl rfl (g := (mkF m 229 #[.val (.ref a), .val (.ref b), .val (.ref b828), .val (.ref r_1017), .unset, .unset] [(.ref r_1017)])) rfl (by rw [hml]; rfl) rfl (hb hby own_d_prog_17_41_229) (W := 0) rfl (by decide) (by decide) (by decide) (by decide)
    obtain ⟨rfl, M1023, e1023⟩ := hQ1023
    have N1023 := Fr.app N1015 M1023
    refine own_st (fun u_ k_ => st1023 u_ k_) ?_
    show own_Go p e below _ (T1023.setTop (mkF m 234 #[.val (.ref a), .val (.ref b), .val (.ref b828), .val (.ref r_1017), .unset, .unset] [(.int (0 : Int32))]))
    refine own_st (fun u_ k_ => XS.ifYes X1023.here hx rfl (pc0 := 234) (pc' := 294) rfl (hb hby own_d_prog_17_41_234) rfl (XT.i0_eq_t (by decide)) (by decide) (by decide) k_) ?_
    refine own_st (fun u_ k_ => XS.aloadN X1023.here hx rfl (hb hby own_d_prog_17_41_294) rfl rfl k_) ?_
    show own_Go p e below _ (T1023.setTop (mkF m 295 #[.val (.ref a), .val (.ref b), .val (.ref b828), .val (.ref r_1017), .unset, .unset] [(.ref b828)]))
    refine own_st (fun u_ k_ => XS.aloadN X1023.here hx rfl (hb hby own_d_prog_17_41_295) rfl rfl k_) ?_
    have F1025 := ((((Fld.other W966 (Fld.other W955 (Fld.other W945 (Fld.other W935 (Fld.other W925 (Fld.other W915 (Fld.other W900 (Fld.other W894 (Fld.other W888 (Fld.other W882 ((Fld.ext E828 B15).keep K838 (ninS ne879 nin0)) (Or.inl ne879)) (Or.inl ne879)) (Or.inl ne879)) (Or.inl ne879)) (Or.inl ne879)) (Or.inl ne879)) (Or.inl ne879)) (Or.inl ne879)) (Or.inl ne879)) (Or.inl ne879)).keep K987 (ninS ne1006 nin0)).keep K1003 (ninS ne1007 nin0)).keep K1015 nin0)
    obtain ⟨T1026, X1026, e1026, st1026⟩ := getF X1023 hx hZ hown (host := "") (Or.inl (own_w hw 323 rfl)) Via.refl e1023 F1025 (g := (mkF m 296 #[.val (.ref a), .val (.ref b), .val (.ref b828), .val (.ref r_1017), .unset, .unset] [(.ref a), (.ref b828)])) rfl rfl (hb hby own_d_prog_17_41_296)
    refine own_st (fun u_ k_ => st1026 u_ k_) ?_
    show own_Go p e below _ (T1026.setTop (mkF m 299 #[.val (.ref a), .val (.ref b), .val (.ref b828), .val (.ref r_1017), .unset, .unset] [.null, (.ref b828)]))
    refine own_st (fun u_ k_ => XS.aloadN X1026.here hx rfl (hb hby own_d_prog_17_41_299) rfl rfl k_) ?_
    have ne1027 : b ≠ pv_840 := (Nat.ne_of_lt (Nat.lt_of_lt_of_le F831.lt z845))
    have F1028 := ((((Fld.other W966 (Fld.other W955 (Fld.other W945 (Fld.other W935 (Fld.other W925 (Fld.other W915 (Fld.other W900 (Fld.other W894 (Fld.other W888 (Fld.other W882 ((Fld.ext E828 D15).keep K838 (ninS ne904 nin0)) (Or.inl ne904)) (Or.inl ne904)) (Or.inl ne904)) (Or.inl ne904)) (Or.inl ne904)) (Or.inl ne904)) (Or.inl ne904)) (Or.inl ne904)) (Or.inl ne904)) (Or.inl ne904)).keep K987 (ninS ne991 nin0)).keep K1003 (ninS ne1027 nin0)).keep K1015 nin0)
    obtain ⟨T1029, X1029, e1029, st1029⟩ := getF X1026 hx hZ hown (host := "") (Or.inl (own_w hw 323 rfl)) Via.refl e1026 F1028 (g := (mkF m 300 #[.val (.ref a), .val (.ref b), .val (.ref b828), .val (.ref r_1017), .unset, .unset] [(.ref b), .null, (.ref b828)])) rfl rfl (hb hby own_d_prog_17_41_300)
    refine own_st (fun u_ k_ => st1029 u_ k_) ?_
    show own_Go p e below _ (T1029.setTop (mkF m 303 #[.val (.ref a), .val (.ref b), .val (.ref b828), .val (.ref r_1017), .unset, .unset] [.null, .null, (.ref b828)]))
    obtain ⟨T1030, v1030, L1030, X1030, hQ1030, st1030⟩ := own_callS X1029 hx hZ (y := own_y_652) hown (own_w hw 215 rfl) (own_w hw 216 rfl) (own_w hw 28 rfl) (own_w hw 217 rfl) own_lm_615 (rmEN l Z a0 hw [] w0 w1 w2 w3 wl wle wd mAL mUL mUR mOA wcs kle kd hS  T1015.heap n0 O1024 ) e1029 own_pd_796 (argsL := [.null, .null]) (rest := [(.ref b828)]) rfl rfl (g := (mkF m 303 #[.val (.ref a), .val (.ref b), .val (.ref b828), .val (.ref r_1017), .unset, .unset] [.null, .null, (.ref b828)])) rfl (by rw [hml]; rfl) rfl (hb hby own_d_prog_17_41_303) (W := 1) rfl (by decide) (by decide) (by decide) (by decide)
    obtain ⟨rfl, M1030, e1030⟩ := hQ1030
    have N1030 := Fr.app N1023 M1030
    refine own_st (fun u_ k_ => st1030 u_ k_) ?_
    show own_Go p e below _ (T1030.setTop (mkF m 306 #[.val (.ref a), .val (.ref b), .val (.ref b828), .val (.ref r_1017), .unset, .unset] [.null, (.ref b828)]))
    refine own_st (X1030.checkcastNull hx (g := (mkF m 306 #[.val (.ref a), .val (.ref b), .val (.ref b828), .val (.ref r_1017), .unset, .unset] [.null, (.ref b828)])) rfl rfl (hb hby own_d_prog_17_41_306)) ?_
    show own_Go p e below _ (T1030.setTop (mkF m 309 #[.val (.ref a), .val (.ref b), .val (.ref b828), .val (.ref r_1017), .unset, .unset] [.null, (.ref b828)]))
    have F1031 := ((((Exa.wr W966 F964).keep K987).keep K1003).keep K1015)
    have F1032 := ((((Fld.other W966 (Fld.other W955 (Fld.other W945 (Fld.other W935 (Fld.other W925 (Fld.other W915 (Fld.other W900 (Fld.other W894 (Fld.other W888 (Fld.other W882 F863 (Or.inr (own_sn_1002 hw))) (Or.inr (own_sn_1004 hw))) (Or.inr (own_sn_1006 hw))) (Or.inr (own_sn_511 hw))) (Or.inr (own_sn_1008 hw))) (Or.inr (own_sn_1010 hw))) (Or.inr (own_sn_642 hw))) (Or.inr (own_sn_1012 hw))) (Or.inr (own_sn_1014 hw))) (Or.inr (own_sn_513 hw))).keep K987 (ninS (Ne.symm ne981) nin0)).keep K1003 (ninS (Ne.symm ne996) nin0)).keep K1015 nin0)
    obtain ⟨T1033, h1033, X1033, e1033, W1033, st1033⟩ := putF X1030 hx hZ hown (host := "") (Or.inl (own_w hw 323 rfl)) Via.refl e1030 F1032 F1031 (Or.inl (own_w hw 324 rfl)) (own_w hw 27 rfl) (ty := (.object "java/lang/String")) own_lm_319 rfl rfl (g := (mkF m 309 #[.val (.ref a), .val (.ref b), .val (.ref b828), .val (.ref r_1017), .unset, .unset] [.null, (.ref b828)])) rfl rfl (hb hby own_d_prog_17_41_309)
    have N1033 := Fr.snoc X1033 N1030 g837
    have F1034 : Fld Z h1033 b828 own_c_235 "initMethodName" "Ljava/lang/String;" .null := Fld.same W1033 F1032
    refine own_st (fun u_ k_ => st1033 u_ k_) ?_
    show own_Go p e below _ (T1033.setTop (mkF m 312 #[.val (.ref a), .val (.ref b), .val (.ref b828), .val (.ref r_1017), .unset, .unset] []))
    refine own_st (fun u_ k_ => XS.aloadN X1033.here hx rfl (hb hby own_d_prog_17_41_312) rfl rfl k_) ?_
    refine own_st (fun u_ k_ => XS.aloadN X1033.here hx rfl (hb hby own_d_prog_17_41_313) rfl rfl k_) ?_
    show own_Go p e below _ (T1033.setTop (mkF m 314 #[.val (.ref a), .val (.ref b), .val (.ref b828), .val (.ref r_1017), .unset, .unset] [(.ref a), (.ref b828)]))
    have F1035 := (Fld.other W1033 ((((Fld.other W966 (Fld.other W955 (Fld.other W945 (Fld.other W935 (Fld.other W925 (Fld.other W915 (Fld.other W900 (Fld.other W894 (Fld.other W888 (Fld.other W882 ((Fld.ext E828 B16).keep K838 (ninS ne879 nin0)) (Or.inl ne879)) (Or.inl ne879)) (Or.inl ne879)) (Or.inl ne879)) (Or.inl ne879)) (Or.inl ne879)) (Or.inl ne879)) (Or.inl ne879)) (Or.inl ne879)) (Or.inl ne879)).keep K987 (ninS ne1006 nin0)).keep K1003 (ninS ne1007 nin0)).keep K1015 nin0) (Or.inl ne879))
    obtain ⟨T1036, X1036, e1036, st1036⟩ := getF X1033 hx hZ hown (host := "") (Or.inl (own_w hw 325 rfl)) Via.refl e1033 F1035 (g := (mkF m 314 #[.val (.ref a), .val (.ref b), .val (.ref b828), .val (.ref r_1017), .unset, .unset] [(.ref a), (.ref b828)])) rfl rfl (hb hby own_d_prog_17_41_314)
    refine own_st (fun u_ k_ => st1036 u_ k_) ?_
    show own_Go p e below _ (T1036.setTop (mkF m 317 #[.val (.ref a), .val (.ref b), .val (.ref b828), .val (.ref r_1017), .unset, .unset] [.null, (.ref b828)]))
    refine own_st (fun u_ k_ => XS.aloadN X1036.here hx rfl (hb hby own_d_prog_17_41_317) rfl rfl k_) ?_
    have F1037 := (Fld.other W1033 ((((Fld.other W966 (Fld.other W955 (Fld.other W945 (Fld.other W935 (Fld.other W925 (Fld.other W915 (Fld.other W900 (Fld.other W894 (Fld.other W888 (Fld.other W882 ((Fld.ext E828 D16).keep K838 (ninS ne904 nin0)) (Or.inl ne904)) (Or.inl ne904)) (Or.inl ne904)) (Or.inl ne904)) (Or.inl ne904)) (Or.inl ne904)) (Or.inl ne904)) (Or.inl ne904)) (Or.inl ne904)) (Or.inl ne904)).keep K987 (ninS ne991 nin0)).keep K1003 (ninS ne1027 nin0)).keep K1015 nin0) (Or.inl ne904))
    obtain ⟨T1038, X1038, e1038, st1038⟩ := getF X1036 hx hZ hown (host := "") (Or.inl (own_w hw 325 rfl)) Via.refl e1036 F1037 (g := (mkF m 318 #[.val (.ref a), .val (.ref b), .val (.ref b828), .val (.ref r_1017), .unset, .unset] [(.ref b), .null, (.ref b828)])) rfl rfl (hb hby own_d_prog_17_41_318)
    refine own_st (fun u_ k_ => st1038 u_ k_) ?_
    show own_Go p e below _ (T1038.setTop (mkF m 321 #[.val (.ref a), .val (.ref b), .val (.ref b828), .val (.ref r_1017), .unset, .unset] [.null, .null, (.ref b828)]))
    have O1040 : Old Z n0 h1033 := O1024.wr W1033 g837
    obtain ⟨T1039, v1039, L1039, X1039, hQ1039, st1039⟩ := own_callS X1038 hx hZ (y := own_y_652) hown (own_w hw 215 rfl) (own_w hw 216 rfl) (own_w hw 28 rfl) (own_w hw 217 rfl) own_lm_615 (rmEN l Z a0 hw [] w0 w1 w2 w3 wl wle wd mAL mUL mUR mOA wcs kle kd hS  h1033 n0 O1040 ) e1038 own_pd_796 (argsL := [.null, .null]) (rest := [(.ref b828)]) rfl rfl (g := (mkF m 321 #[.val (.ref a), .val (.ref b), .val (.ref b828), .val (.ref r_1017), .unset, .unset] [.null, .null, (.ref b828)])) rfl (by rw [hml]; rfl) rfl (hb hby own_d_prog_17_41_321) (W := 1) rfl (by decide) (by decide) (by decide) (by decide)
    obtain ⟨rfl, M1039, e1039⟩ := hQ1039
    have N1039 := Fr.app N1033 M1039
    refine own_st (fun u_ k_ => st1039 u_ k_) ?_
    show own_Go p e below _ (T1039.setTop (mkF m 324 #[.val (.ref a), .val (.ref b), .val (.ref b828), .val (.ref r_1017), .unset, .unset] [.null, (.ref b828)]))
    refine own_st (X1039.checkcastNull hx (g := (mkF m 324 #[.val (.ref a), .val (.ref b), .val (.ref b828), .val (.ref r_1017), .unset, .unset] [.null, (.ref b828)])) rfl rfl (hb hby own_d_prog_17_41_324)) ?_
    show own_Go p e below _ (T1039.setTop (mkF m 327 #[.val (.ref a), .val (.ref b), .val (.ref b828), .val (.ref r_1017), .unset, .unset] [.null, (.ref b828)]))
    have F1041 := (Exa.wr W1033 F1031)
    have F1042 := (Fld.other W1033 ((((Fld.other W966 (Fld.other W955 (Fld.other W945 (Fld.other W935 (Fld.other W925 (Fld.other W915 (Fld.other W900 (Fld.other W894 (Fld.other W888 (Fld.other W882 F864 (Or.inr (own_sn_1024 hw))) (Or.inr (own_sn_1026 hw))) (Or.inr (own_sn_1028 hw))) (Or.inr (own_sn_527 hw))) (Or.inr (own_sn_1030 hw))) (Or.inr (own_sn_1032 hw))) (Or.inr (own_sn_644 hw))) (Or.inr (own_sn_1034 hw))) (Or.inr (own_sn_1036 hw))) (Or.inr (own_sn_529 hw))).keep K987 (ninS (Ne.symm ne981) nin0)).keep K1003 (ninS (Ne.symm ne996) nin0)).keep K1015 nin0) (Or.inr (own_sn_1038 hw)))
    obtain ⟨T1043, h1043, X1043, e1043, W1043, st1043⟩ := putF X1039 hx hZ hown (host := "") (Or.inl (own_w hw 325 rfl)) Via.refl e1039 F1042 F1041 (Or.inl (own_w hw 326 rfl)) (own_w hw 27 rfl) (ty := (.object "java/lang/String")) own_lm_319 rfl rfl (g := (mkF m 327 #[.val (.ref a), .val (.ref b), .val (.ref b828), .val (.ref r_1017), .unset, .unset] [.null, (.ref b828)])) rfl rfl (hb hby own_d_prog_17_41_327)
    have N1043 := Fr.snoc X1043 N1039 g837
    have F1044 : Fld Z h1043 b828 own_c_235 "destroyMethodName" "Ljava/lang/String;" .null := Fld.same W1043 F1042
    refine own_st (fun u_ k_ => st1043 u_ k_) ?_
    show own_Go p e below _ (T1043.setTop (mkF m 330 #[.val (.ref a), .val (.ref b), .val (.ref b828), .val (.ref r_1017), .unset, .unset] []))
    refine own_st (fun u_ k_ => XS.aloadN X1043.here hx rfl (hb hby own_d_prog_17_41_330) rfl rfl k_) ?_
    refine own_st (fun u_ k_ => XS.aloadN X1043.here hx rfl (hb hby own_d_prog_17_41_331) rfl rfl k_) ?_
    show own_Go p e below _ (T1043.setTop (mkF m 332 #[.val (.ref a), .val (.ref b), .val (.ref b828), .val (.ref r_1017), .unset, .unset] [(.ref a), (.ref b828)]))
    have F1045 := (Fld.other W1043 (Fld.other W1033 ((((Fld.other W966 (Fld.other W955 (Fld.other W945 (Fld.other W935 (Fld.other W925 (Fld.other W915 (Fld.other W900 (Fld.other W894 (Fld.other W888 (Fld.other W882 ((Fld.ext E828 B17).keep K838 (ninS ne879 nin0)) (Or.inl ne879)) (Or.inl ne879)) (Or.inl ne879)) (Or.inl ne879)) (Or.inl ne879)) (Or.inl ne879)) (Or.inl ne879)) (Or.inl ne879)) (Or.inl ne879)) (Or.inl ne879)).keep K987 (ninS ne1006 nin0)).keep K1003 (ninS ne1007 nin0)).keep K1015 nin0) (Or.inl ne879)) (Or.inl ne879))
    obtain ⟨T1046, X1046, e1046, st1046⟩ := getF X1043 hx hZ hown (host := "") (Or.inl (own_w hw 327 rfl)) Via.refl e1043 F1045 (g := (mkF m 332 #[.val (.ref a), .val (.ref b), .val (.ref b828), .val (.ref r_1017), .unset, .unset] [(.ref a), (.ref b828)])) rfl rfl (hb hby own_d_prog_17_41_332)
    refine own_st (fun u_ k_ => st1046 u_ k_) ?_
    show own_Go p e below _ (T1046.setTop (mkF m 335 #[.val (.ref a), .val (.ref b), .val (.ref b828), .val (.ref r_1017), .unset, .unset] [.null, (.ref b828)]))
    have F1047 := (Exa.wr W1043 F1041)
    have F1048 := (Fld.other W1043 (Fld.other W1033 ((((Fld.other W966 (Fld.other W955 (Fld.other W945 (Fld.other W935 (Fld.other W925 (Fld.other W915 (Fld.other W900 (Fld.other W894 (Fld.other W888 (Fld.other W882 F865 (Or.inr (own_sn_1044 hw))) (Or.inr (own_sn_1046 hw))) (Or.inr (own_sn_1048 hw))) (Or.inr (own_sn_543 hw))) (Or.inr (own_sn_1050 hw))) (Or.inr (own_sn_1052 hw))) (Or.inr (own_sn_646 hw))) (Or.inr (own_sn_1054 hw))) (Or.inr (own_sn_1056 hw))) (Or.inr (own_sn_545 hw))).keep K987 (ninS (Ne.symm ne981) nin0)).keep K1003 (ninS (Ne.symm ne996) nin0)).keep K1015 nin0) (Or.inr (own_sn_1058 hw))) (Or.inr (own_sn_1060 hw)))
    obtain ⟨T1049, h1049, X1049, e1049, W1049, st1049⟩ := putF X1046 hx hZ hown (host := "") (Or.inl (own_w hw 327 rfl)) Via.refl e1046 F1048 F1047 (Or.inl (own_w hw 328 rfl)) (own_w hw 27 rfl) (ty := (.object "java/lang/String")) own_lm_319 rfl rfl (g := (mkF m 335 #[.val (.ref a), .val (.ref b), .val (.ref b828), .val (.ref r_1017), .unset, .unset] [.null, (.ref b828)])) rfl rfl (hb hby own_d_prog_17_41_335)
    have N1049 := Fr.snoc X1049 N1043 g837
    have F1050 : Fld Z h1049 b828 own_c_235 "origin" "Ljava/lang/String;" .null := Fld.same W1049 F1048
    refine own_st (fun u_ k_ => st1049 u_ k_) ?_
    show own_Go p e below _ (T1049.setTop (mkF m 338 #[.val (.ref a), .val (.ref b), .val (.ref b828), .val (.ref r_1017), .unset, .unset] []))
    refine own_st (fun u_ k_ => XS.aloadN X1049.here hx rfl (hb hby own_d_prog_17_41_338) rfl rfl k_) ?_
    have K1051 : Keep h0 h828 [] := (Keep.refl h0 []).ext E828
    have z1053 : h0.size ≤ b828 := Nat.le_trans (Nat.le_refl _) (Nat.le_of_eq g828.symm)
    have K1052 : Keep h0 T838.heap [] := K1051.trans K838 (allS (Or.inr z1053) all0)
    have K1054 : Keep h0 h882 [] := K1052.wr W882 (Or.inr z1053)
    have K1055 : Keep h0 h888 [] := K1054.wr W888 (Or.inr z1053)
    have K1056 : Keep h0 h894 [] := K1055.wr W894 (Or.inr z1053)
    have K1057 : Keep h0 h900 [] := K1056.wr W900 (Or.inr z1053)
    have K1058 : Keep h0 h915 [] := K1057.wr W915 (Or.inr z1053)
    have K1059 : Keep h0 h925 [] := K1058.wr W925 (Or.inr z1053)
    have K1060 : Keep h0 h935 [] := K1059.wr W935 (Or.inr z1053)
    have K1061 : Keep h0 h945 [] := K1060.wr W945 (Or.inr z1053)
    have K1062 : Keep h0 h955 [] := K1061.wr W955 (Or.inr z1053)
    have K1063 : Keep h0 h966 [] := K1062.wr W966 (Or.inr z1053)
    have z1065 : h0.size ≤ ca_839 := Nat.le_trans E828.1 z844
    have K1064 : Keep h0 T987.heap [] := K1063.trans K987 (allS (Or.inr z1065) all0)
    have z1067 : h0.size ≤ pv_840 := Nat.le_trans E828.1 z845
    have K1066 : Keep h0 T1003.heap [] := K1064.trans K1003 (allS (Or.inr z1067) all0)
    have K1068 : Keep h0 T1015.heap [] := K1066.trans K1015 all0
    have K1069 : Keep h0 h1033 [] := K1068.wr W1033 (Or.inr z1053)
    have K1070 : Keep h0 h1043 [] := K1069.wr W1043 (Or.inr z1053)
    have K1071 : Keep h0 h1049 [] := K1070.wr W1049 (Or.inr z1053)
    have F1072 := (Exa.wr W1049 F1047)
    have F1073 := (Fld.other W1049 (Fld.other W1043 (Fld.other W1033 ((((Fld.other W966 (Fld.other W955 (Fld.other W945 F936 (Or.inr (own_sn_1064 hw))) (Or.inr (own_sn_1066 hw))) (Or.inr (own_sn_382 hw))).keep K987 (ninS (Ne.symm ne981) nin0)).keep K1003 (ninS (Ne.symm ne996) nin0)).keep K1015 nin0) (Or.inr (own_sn_1068 hw))) (Or.inr (own_sn_1070 hw))) (Or.inr (own_sn_1072 hw)))
    exact own_retX X1049 hx hlk hret rfl (Or.inr (Or.inr (Or.inr (Or.inr ⟨rfl, rfl, rfl⟩)))) (hb hby own_d_prog_17_41_339) (by decide) (by decide) (show QrmMR Z w0 w1 w2 w3 wl wle wd mAL mUL mUR mOA wcs kle kd a b cs ca pv wt u1 ca2 pv2 wt2 u2 h0 n0 (some (.ref b828)) T1049.heap _ from (by rw [e1049]; exact ⟨b828, .null, rfl, N1049, K1071, z1053, F1072, F1073, hq.symm⟩))
  · rw [hq]
    show own_Go p e below _ (T931.setTop (mkF m 102 #[.val (.ref a), .val (.ref b), .val (.ref b828), .unset, .unset, .unset] [(.ref wq), (.ref b828)]))
    have F1075 := Exa.ext O932.2 Eq
    obtain ⟨T1074, X1074, e1074, st1074⟩ := castY X931 hx hZ hown (own_w hw 230 rfl) e931 (Ins.self F1075) (g := (mkF m 102 #[.val (.ref a), .val (.ref b), .val (.ref b828), .unset, .unset, .unset] [(.ref wq), (.ref b828)])) rfl rfl (hb hby own_d_prog_17_41_102)
    refine own_st (fun u_ k_ => st1074 u_ k_) ?_
    show own_Go p e below _ (T1074.setTop (mkF m 105 #[.val (.ref a), .val (.ref b), .val (.ref b828), .unset, .unset, .unset] [(.ref wq), (.ref b828)]))
    have F1076 := (Exa.wr W925 F923)
    have F1077 := (Fld.other W925 (Fld.other W915 (Fld.other W900 (Fld.other W894 (Fld.other W888 (Fld.other W882 F855 (Or.inr (own_sn_868 hw))) (Or.inr (own_sn_870 hw))) (Or.inr (own_sn_872 hw))) (Or.inr (own_sn_380 hw))) (Or.inr (own_sn_874 hw))) (Or.inr (own_sn_876 hw)))
    obtain ⟨T1078, h1078, X1078, e1078, W1078, st1078⟩ := putF X1074 hx hZ hown (host := "") (Or.inl (own_w hw 147 rfl)) Via.refl e1074 F1077 F1076 (Or.inl (own_w hw 148 rfl)) (own_w hw 27 rfl) (ty := (.object "com/example/temanggung/temanggung/beans/factory/Autowire")) own_lm_379 rfl rfl (g := (mkF m 105 #[.val (.ref a), .val (.ref b), .val (.ref b828), .unset, .unset, .unset] [(.ref wq), (.ref b828)])) rfl rfl (hb hby own_d_prog_17_41_105)
    have N1078 := Fr.snoc X1078 N931 g837
    have F1079 : Fld Z h1078 b828 own_c_235 "autowire" own_c_559 (.ref wq) := Fld.same W1078 F1077
    refine own_st (fun u_ k_ => st1078 u_ k_) ?_
    show own_Go p e below _ (T1078.setTop (mkF m 108 #[.val (.ref a), .val (.ref b), .val (.ref b828), .unset, .unset, .unset] []))
    refine own_st (fun u_ k_ => XS.aloadN X1078.here hx rfl (hb hby own_d_prog_17_41_108) rfl rfl k_) ?_
    refine own_st (fun u_ k_ => XS.aloadN X1078.here hx rfl (hb hby own_d_prog_17_41_109) rfl rfl k_) ?_
    show own_Go p e below _ (T1078.setTop (mkF m 110 #[.val (.ref a), .val (.ref b), .val (.ref b828), .unset, .unset, .unset] [(.ref a), (.ref b828)]))
    have F1080 := (Fld.other W1078 (Fld.other W925 (Fld.other W915 (Fld.other W900 (Fld.other W894 (Fld.other W888 (Fld.other W882 ((Fld.ext E828 B13).keep K838 (ninS ne879 nin0)) (Or.inl ne879)) (Or.inl ne879)) (Or.inl ne879)) (Or.inl ne879)) (Or.inl ne879)) (Or.inl ne879)) (Or.inl ne879))
    obtain ⟨T1081, X1081, e1081, st1081⟩ := getF X1078 hx hZ hown (host := "") (Or.inl (own_w hw 232 rfl)) Via.refl e1078 F1080 (g := (mkF m 110 #[.val (.ref a), .val (.ref b), .val (.ref b828), .unset, .unset, .unset] [(.ref a), (.ref b828)])) rfl rfl (hb hby own_d_prog_17_41_110)
    refine own_st (fun u_ k_ => st1081 u_ k_) ?_
    show own_Go p e below _ (T1081.setTop (mkF m 113 #[.val (.ref a), .val (.ref b), .val (.ref b828), .unset, .unset, .unset] [.null, (.ref b828)]))
    refine own_st (fun u_ k_ => XS.aloadN X1081.here hx rfl (hb hby own_d_prog_17_41_113) rfl rfl k_) ?_
    have F1082 := (Fld.other W1078 (Fld.other W925 (Fld.other W915 (Fld.other W900 (Fld.other W894 (Fld.other W888 (Fld.other W882 ((Fld.ext E828 D13).keep K838 (ninS ne904 nin0)) (Or.inl ne904)) (Or.inl ne904)) (Or.inl ne904)) (Or.inl ne904)) (Or.inl ne904)) (Or.inl ne904)) (Or.inl ne904))
    obtain ⟨T1083, X1083, e1083, st1083⟩ := getF X1081 hx hZ hown (host := "") (Or.inl (own_w hw 232 rfl)) Via.refl e1081 F1082 (g := (mkF m 114 #[.val (.ref a), .val (.ref b), .val (.ref b828), .unset, .unset, .unset] [(.ref b), .null, (.ref b828)])) rfl rfl (hb hby own_d_prog_17_41_114)
    refine own_st (fun u_ k_ => st1083 u_ k_) ?_
    show own_Go p e below _ (T1083.setTop (mkF m 117 #[.val (.ref a), .val (.ref b), .val (.ref b828), .unset, .unset, .unset] [.null, .null, (.ref b828)]))
    have O1085 : Old Z n0 h1078 := O932.wr W1078 g837
    obtain ⟨T1084, v1084, L1084, X1084, hQ1084, st1084⟩ := own_callS X1083 hx hZ (y := own_y_652) hown (own_w hw 215 rfl) (own_w hw 216 rfl) (own_w hw 28 rfl) (own_w hw 217 rfl) own_lm_615 (rmEN l Z a0 hw [] w0 w1 w2 w3 wl wle wd mAL mUL mUR mOA wcs kle kd hS  h1078 n0 O1085 ) e1083 own_pd_796 (argsL := [.null, .null]) (rest := [(.ref b828)]) rfl rfl (g := (mkF m 117 #[.val (.ref a), .val (.ref b), .val (.ref b828), .unset, .unset, .unset] [.null, .null, (.ref b828)])) rfl (by rw [hml]; rfl) rfl (hb hby own_d_prog_17_41_117) (W := 1) rfl (by decide) (by decide) (by decide) (by decide)
    obtain ⟨rfl, M1084, e1084⟩ := hQ1084
    have N1084 := Fr.app N1078 M1084
    refine own_st (fun u_ k_ => st1084 u_ k_) ?_
    show own_Go p e below _ (T1084.setTop (mkF m 120 #[.val (.ref a), .val (.ref b), .val (.ref b828), .unset, .unset, .unset] [.null, (.ref b828)]))
    refine own_st (X1084.checkcastNull hx (g := (mkF m 120 #[.val (.ref a), .val (.ref b), .val (.ref b828), .unset, .unset, .unset] [.null, (.ref b828)])) rfl rfl (hb hby own_d_prog_17_41_120)) ?_
    show own_Go p e below _ (T1084.setTop (mkF m 123 #[.val (.ref a), .val (.ref b), .val (.ref b828), .unset, .unset, .unset] [.null, (.ref b828)]))
    have F1086 := (Exa.wr W1078 F1076)
    have F1087 := (Fld.other W1078 (Fld.other W925 (Fld.other W915 (Fld.other W900 (Fld.other W894 (Fld.other W888 (Fld.other W882 F861 (Or.inr (own_sn_886 hw))) (Or.inr (own_sn_888 hw))) (Or.inr (own_sn_890 hw))) (Or.inr (own_sn_479 hw))) (Or.inr (own_sn_892 hw))) (Or.inr (own_sn_894 hw))) (Or.inr (own_sn_638 hw)))
    obtain ⟨T1088, h1088, X1088, e1088, W1088, st1088⟩ := putF X1084 hx hZ hown (host := "") (Or.inl (own_w hw 232 rfl)) Via.refl e1084 F1087 F1086 (Or.inl (own_w hw 233 rfl)) (own_w hw 27 rfl) (ty := (.object "java/lang/String")) own_lm_319 rfl rfl (g := (mkF m 123 #[.val (.ref a), .val (.ref b), .val (.ref b828), .unset, .unset, .unset] [.null, (.ref b828)])) rfl rfl (hb hby own_d_prog_17_41_123)
    have N1088 := Fr.snoc X1088 N1084 g837
    have F1089 : Fld Z h1088 b828 own_c_235 "factoryBeanName" "Ljava/lang/String;" .null := Fld.same W1088 F1087
    refine own_st (fun u_ k_ => st1088 u_ k_) ?_
    show own_Go p e below _ (T1088.setTop (mkF m 126 #[.val (.ref a), .val (.ref b), .val (.ref b828), .unset, .unset, .unset] []))
    refine own_st (fun u_ k_ => XS.aloadN X1088.here hx rfl (hb hby own_d_prog_17_41_126) rfl rfl k_) ?_
    refine own_st (fun u_ k_ => XS.aloadN X1088.here hx rfl (hb hby own_d_prog_17_41_127) rfl rfl k_) ?_
    show own_Go p e below _ (T1088.setTop (mkF m 128 #[.val (.ref a), .val (.ref b), .val (.ref b828), .unset, .unset, .unset] [(.ref a), (.ref b828)]))
    have F1090 := (Fld.other W1088 (Fld.other W1078 (Fld.other W925 (Fld.other W915 (Fld.other W900 (Fld.other W894 (Fld.other W888 (Fld.other W882 ((Fld.ext E828 B14).keep K838 (ninS ne879 nin0)) (Or.inl ne879)) (Or.inl ne879)) (Or.inl ne879)) (Or.inl ne879)) (Or.inl ne879)) (Or.inl ne879)) (Or.inl ne879)) (Or.inl ne879))
    obtain ⟨T1091, X1091, e1091, st1091⟩ := getF X1088 hx hZ hown (host := "") (Or.inl (own_w hw 234 rfl)) Via.refl e1088 F1090 (g := (mkF m 128 #[.val (.ref a), .val (.ref b), .val (.ref b828), .unset, .unset, .unset] [(.ref a), (.ref b828)])) rfl rfl (hb hby own_d_prog_17_41_128)
    refine own_st (fun u_ k_ => st1091 u_ k_) ?_
    show own_Go p e below _ (T1091.setTop (mkF m 131 #[.val (.ref a), .val (.ref b), .val (.ref b828), .unset, .unset, .unset] [.null, (.ref b828)]))
    refine own_st (fun u_ k_ => XS.aloadN X1091.here hx rfl (hb hby own_d_prog_17_41_131) rfl rfl k_) ?_
    have F1092 := (Fld.other W1088 (Fld.other W1078 (Fld.other W925 (Fld.other W915 (Fld.other W900 (Fld.other W894 (Fld.other W888 (Fld.other W882 ((Fld.ext E828 D14).keep K838 (ninS ne904 nin0)) (Or.inl ne904)) (Or.inl ne904)) (Or.inl ne904)) (Or.inl ne904)) (Or.inl ne904)) (Or.inl ne904)) (Or.inl ne904)) (Or.inl ne904))
    obtain ⟨T1093, X1093, e1093, st1093⟩ := getF X1091 hx hZ hown (host := "") (Or.inl (own_w hw 234 rfl)) Via.refl e1091 F1092 (g := (mkF m 132 #[.val (.ref a), .val (.ref b), .val (.ref b828), .unset, .unset, .unset] [(.ref b), .null, (.ref b828)])) rfl rfl (hb hby own_d_prog_17_41_132)
    refine own_st (fun u_ k_ => st1093 u_ k_) ?_
    show own_Go p e below _ (T1093.setTop (mkF m 135 #[.val (.ref a), .val (.ref b), .val (.ref b828), .unset, .unset, .unset] [.null, .null, (.ref b828)]))
    have O1095 : Old Z n0 h1088 := O1085.wr W1088 g837
    obtain ⟨T1094, v1094, L1094, X1094, hQ1094, st1094⟩ := own_callS X1093 hx hZ (y := own_y_652) hown (own_w hw 215 rfl) (own_w hw 216 rfl) (own_w hw 28 rfl) (own_w hw 217 rfl) own_lm_615 (rmEN l Z a0 hw [] w0 w1 w2 w3 wl wle wd mAL mUL mUR mOA wcs kle kd hS  h1088 n0 O1095 ) e1093 own_pd_796 (argsL := [.null, .null]) (rest := [(.ref b828)]) rfl rfl (g := (mkF m 135 #[.val (.ref a), .val (.ref b), .val (.ref b828), .unset, .unset, .unset] [.null, .null, (.ref b828)])) rfl (by rw [hml]; rfl) rfl (hb hby own_d_prog_17_41_135) (W := 1) rfl (by decide) (by decide) (by decide) (by decide)
    obtain ⟨rfl, M1094, e1094⟩ := hQ1094
    have N1094 := Fr.app N1088 M1094
    refine own_st (fun u_ k_ => st1094 u_ k_) ?_
    show own_Go p e below _ (T1094.setTop (mkF m 138 #[.val (.ref a), .val (.ref b), .val (.ref b828), .unset, .unset, .unset] [.null, (.ref b828)]))
    refine own_st (X1094.checkcastNull hx (g := (mkF m 138 #[.val (.ref a), .val (.ref b), .val (.ref b828), .unset, .unset, .unset] [.null, (.ref b828)])) rfl rfl (hb hby own_d_prog_17_41_138)) ?_
    show own_Go p e below _ (T1094.setTop (mkF m 141 #[.val (.ref a), .val (.ref b), .val (.ref b828), .unset, .unset, .unset] [.null, (.ref b828)]))
    have F1096 := (Exa.wr W1088 F1086)
    have F1097 := (Fld.other W1088 (Fld.other W1078 (Fld.other W925 (Fld.other W915 (Fld.other W900 (Fld.other W894 (Fld.other W888 (Fld.other W882 F862 (Or.inr (own_sn_904 hw))) (Or.inr (own_sn_906 hw))) (Or.inr (own_sn_908 hw))) (Or.inr (own_sn_495 hw))) (Or.inr (own_sn_910 hw))) (Or.inr (own_sn_912 hw))) (Or.inr (own_sn_640 hw))) (Or.inr (own_sn_914 hw)))
    obtain ⟨T1098, h1098, X1098, e1098, W1098, st1098⟩ := putF X1094 hx hZ hown (host := "") (Or.inl (own_w hw 234 rfl)) Via.refl e1094 F1097 F1096 (Or.inl (own_w hw 235 rfl)) (own_w hw 27 rfl) (ty := (.object "java/lang/String")) own_lm_319 rfl rfl (g := (mkF m 141 #[.val (.ref a), .val (.ref b), .val (.ref b828), .unset, .unset, .unset] [.null, (.ref b828)])) rfl rfl (hb hby own_d_prog_17_41_141)
    have N1098 := Fr.snoc X1098 N1094 g837
    have F1099 : Fld Z h1098 b828 own_c_235 "factoryMethodName" "Ljava/lang/String;" .null := Fld.same W1098 F1097
    refine own_st (fun u_ k_ => st1098 u_ k_) ?_
    show own_Go p e below _ (T1098.setTop (mkF m 144 #[.val (.ref a), .val (.ref b), .val (.ref b828), .unset, .unset, .unset] []))
    refine own_st (fun u_ k_ => XS.aloadN X1098.here hx rfl (hb hby own_d_prog_17_41_144) rfl rfl k_) ?_
    refine own_st (fun u_ k_ => XS.aloadN X1098.here hx rfl (hb hby own_d_prog_17_41_145) rfl rfl k_) ?_
    show own_Go p e below _ (T1098.setTop (mkF m 146 #[.val (.ref a), .val (.ref b), .val (.ref b828), .unset, .unset, .unset] [(.ref a), (.ref b828)]))
    have F1100 := (Fld.other W1098 (Fld.other W1088 (Fld.other W1078 (Fld.other W925 (Fld.other W915 (Fld.other W900 (Fld.other W894 (Fld.other W888 (Fld.other W882 ((Fld.ext E828 B2).keep K838 (ninS ne879 nin0)) (Or.inl ne879)) (Or.inl ne879)) (Or.inl ne879)) (Or.inl ne879)) (Or.inl ne879)) (Or.inl ne879)) (Or.inl ne879)) (Or.inl ne879)) (Or.inl ne879))
    obtain ⟨T1101, X1101, e1101, st1101⟩ := getF X1098 hx hZ hown (host := "") (Or.inl (own_w hw 41 rfl)) Via.refl e1098 F1100 (g := (mkF m 146 #[.val (.ref a), .val (.ref b), .val (.ref b828), .unset, .unset, .unset] [(.ref a), (.ref b828)])) rfl rfl (hb hby own_d_prog_17_41_146)
    refine own_st (fun u_ k_ => st1101 u_ k_) ?_
    show own_Go p e below _ (T1101.setTop (mkF m 149 #[.val (.ref a), .val (.ref b), .val (.ref b828), .unset, .unset, .unset] [(.ref wl), (.ref b828)]))
    have O1103 : Old Z n0 h1098 := O1095.wr W1098 g837
    have F1104 := Exa.ext O1103.2 hS.2.2.2.2.2.2.2.2.2.2.2.1
    obtain ⟨T1102, v1102, L1102, X1102, hQ1102, st1102⟩ := own_callI X1101 hx hZ (y := own_y_919) (z := own_y_662) hown (own_w hw 236 rfl) (own_w hw 237 rfl) (mvT hZ (own_w hw 238 rfl)) (own_w hw 239 rfl) (own_w hw 240 rfl) (own_w hw 241 rfl) (own_w hw 242 rfl) (own_w hw 243 rfl) (own_w hw 244 rfl) (own_w hw 245 rfl) own_lm_132 (rmLE l Z a0 hw [] w0 w1 w2 w3 wl wle wd mAL mUL mUR mOA wcs kle kd hS  h1098 n0 O1103 ) e1101 F1104 own_pd_230 (argsL := []) (rest := [(.ref b828)]) rfl rfl (g := (mkF m 149 #[.val (.ref a), .val (.ref b), .val (.ref b828), .unset, .unset, .unset] [(.ref wl), (.ref b828)])) rfl (by rw [hml]; rfl) rfl (hb hby own_d_prog_17_41_149) (W := 1) rfl (by decide) (by decide) (by decide) (by decide)
    obtain ⟨rfl, M1102, e1102⟩ := hQ1102
    have N1102 := Fr.app N1098 M1102
    refine own_st (fun u_ k_ => st1102 u_ k_) ?_
    show own_Go p e below _ (T1102.setTop (mkF m 154 #[.val (.ref a), .val (.ref b), .val (.ref b828), .unset, .unset, .unset] [(.int (1 : Int32)), (.ref b828)]))
    refine own_st (fun u_ k_ => XS.ifNo X1102.here hx rfl (hb hby own_d_prog_17_41_154) rfl (XT.i0_eq_f (by decide)) k_) ?_
    refine own_st (fun u_ k_ => XS.aloadN X1102.here hx rfl (hb hby own_d_prog_17_41_157) rfl rfl k_) ?_
    show own_Go p e below _ (T1102.setTop (mkF m 158 #[.val (.ref a), .val (.ref b), .val (.ref b828), .unset, .unset, .unset] [(.ref b), (.ref b828)]))
    have F1105 := (Fld.other W1098 (Fld.other W1088 (Fld.other W1078 (Fld.other W925 (Fld.other W915 (Fld.other W900 (Fld.other W894 (Fld.other W888 (Fld.other W882 ((Fld.ext E828 D2).keep K838 (ninS ne904 nin0)) (Or.inl ne904)) (Or.inl ne904)) (Or.inl ne904)) (Or.inl ne904)) (Or.inl ne904)) (Or.inl ne904)) (Or.inl ne904)) (Or.inl ne904)) (Or.inl ne904))
    obtain ⟨T1106, X1106, e1106, st1106⟩ := getF X1102 hx hZ hown (host := "") (Or.inl (own_w hw 41 rfl)) Via.refl e1102 F1105 (g := (mkF m 158 #[.val (.ref a), .val (.ref b), .val (.ref b828), .unset, .unset, .unset] [(.ref b), (.ref b828)])) rfl rfl (hb hby own_d_prog_17_41_158)
    refine own_st (fun u_ k_ => st1106 u_ k_) ?_
    show own_Go p e below _ (T1106.setTop (mkF m 161 #[.val (.ref a), .val (.ref b), .val (.ref b828), .unset, .unset, .unset] [(.ref wl), (.ref b828)]))
    refine own_st (fun u_ k_ => XS.goto X1106.here hx rfl (pc0 := 161) (pc' := 168) rfl (hb hby own_d_prog_17_41_161) (by decide) (by decide) k_) ?_
    have F1107 := (Exa.wr W1098 F1096)
    have F1108 := (Fld.other W1098 (Fld.other W1088 (Fld.other W1078 (Fld.other W925 (Fld.other W915 (Fld.other W900 (Fld.other W894 (Fld.other W888 (Fld.other W882 F850 (Or.inr (own_sn_926 hw))) (Or.inr (own_sn_928 hw))) (Or.inr (own_sn_930 hw))) (Or.inr (own_sn_246 hw))) (Or.inr (own_sn_932 hw))) (Or.inr (own_sn_934 hw))) (Or.inr (own_sn_620 hw))) (Or.inr (own_sn_936 hw))) (Or.inr (own_sn_938 hw)))
    obtain ⟨T1109, h1109, X1109, e1109, W1109, st1109⟩ := putF X1106 hx hZ hown (host := "") (Or.inl (own_w hw 41 rfl)) Via.refl e1106 F1108 F1107 (Or.inl (own_w hw 42 rfl)) (own_w hw 27 rfl) (ty := (.object "java/util/List")) own_lm_104 rfl rfl (g := (mkF m 168 #[.val (.ref a), .val (.ref b), .val (.ref b828), .unset, .unset, .unset] [(.ref wl), (.ref b828)])) rfl rfl (hb hby own_d_prog_17_41_168)
    have N1109 := Fr.snoc X1109 N1102 g837
    have F1110 : Fld Z h1109 b828 own_c_235 "dependsOn" "Ljava/util/List;" (.ref wl) := Fld.same W1109 F1108
    refine own_st (fun u_ k_ => st1109 u_ k_) ?_
    show own_Go p e below _ (T1109.setTop (mkF m 171 #[.val (.ref a), .val (.ref b), .val (.ref b828), .unset, .unset, .unset] []))
    refine own_st (fun u_ k_ => XS.aloadN X1109.here hx rfl (hb hby own_d_prog_17_41_171) rfl rfl k_) ?_
    have F1111 := (Fld.other W1109 (Fld.other W1098 (Fld.other W1088 (Fld.other W1078 (Fld.other W925 (Fld.other W915 (Fld.other W900 (Fld.other W894 (Fld.other W888 (Fld.other W882 F851 (Or.inr (own_sn_942 hw))) (Or.inr (own_sn_944 hw))) (Or.inr (own_sn_946 hw))) (Or.inr (own_sn_254 hw))) (Or.inr (own_sn_948 hw))) (Or.inr (own_sn_950 hw))) (Or.inr (own_sn_622 hw))) (Or.inr (own_sn_952 hw))) (Or.inr (own_sn_954 hw))) (Or.inr (own_sn_256 hw)))
    obtain ⟨T1112, X1112, e1112, st1112⟩ := getF X1109 hx hZ hown (host := "") (Or.inl (own_w hw 67 rfl)) Via.refl e1109 F1111 (g := (mkF m 172 #[.val (.ref a), .val (.ref b), .val (.ref b828), .unset, .unset, .unset] [(.ref b828)])) rfl rfl (hb hby own_d_prog_17_41_172)
    refine own_st (fun u_ k_ => st1112 u_ k_) ?_
    show own_Go p e below _ (T1112.setTop (mkF m 175 #[.val (.ref a), .val (.ref b), .val (.ref b828), .unset, .unset, .unset] [(.ref ca_839)]))
    refine own_st (fun u_ k_ => XS.aloadN X1112.here hx rfl (hb hby own_d_prog_17_41_175) rfl rfl k_) ?_
    have F1113 := (Fld.other W1109 (Fld.other W1098 (Fld.other W1088 (Fld.other W1078 (Fld.other W925 (Fld.other W915 (Fld.other W900 (Fld.other W894 (Fld.other W888 (Fld.other W882 ((Fld.ext E828 B3).keep K838 (ninS ne879 nin0)) (Or.inl ne879)) (Or.inl ne879)) (Or.inl ne879)) (Or.inl ne879)) (Or.inl ne879)) (Or.inl ne879)) (Or.inl ne879)) (Or.inl ne879)) (Or.inl ne879)) (Or.inl ne879))
    obtain ⟨T1114, X1114, e1114, st1114⟩ := getF X1112 hx hZ hown (host := "") (Or.inl (own_w hw 67 rfl)) Via.refl e1112 F1113 (g := (mkF m 176 #[.val (.ref a), .val (.ref b), .val (.ref b828), .unset, .unset, .unset] [(.ref a), (.ref ca_839)])) rfl rfl (hb hby own_d_prog_17_41_176)
    refine own_st (fun u_ k_ => st1114 u_ k_) ?_
    show own_Go p e below _ (T1114.setTop (mkF m 179 #[.val (.ref a), .val (.ref b), .val (.ref b828), .unset, .unset, .unset] [(.ref ca), (.ref ca_839)]))
    have ne1115 : ca ≠ b828 := (Nat.ne_of_lt (Nat.lt_of_lt_of_le L0.lt (Nat.le_of_eq g828.symm)))
    have F1116 := (Fld.other W1109 (Fld.other W1098 (Fld.other W1088 (Fld.other W1078 (Fld.other W925 (Fld.other W915 (Fld.other W900 (Fld.other W894 (Fld.other W888 (Fld.other W882 ((Fld.ext E828 L2).keep K838 (ninS ne1115 nin0)) (Or.inl ne1115)) (Or.inl ne1115)) (Or.inl ne1115)) (Or.inl ne1115)) (Or.inl ne1115)) (Or.inl ne1115)) (Or.inl ne1115)) (Or.inl ne1115)) (Or.inl ne1115)) (Or.inl ne1115))
    have O1118 : Old Z n0 h1109 := O1103.wr W1109 g837
    have F1119 := (Exa.wr W1109 (Exa.wr W1098 (Exa.wr W1088 (Exa.wr W1078 (Exa.wr W925 (Exa.wr W915 (Exa.wr W900 (Exa.wr W894 (Exa.wr W888 (Exa.wr W882 ((Exa.ext E828 L0).keep K838)))))))))))
    obtain ⟨T1117, v1117, L1117, X1117, hQ1117, st1117⟩ := own_callI X1114 hx hZ (y := own_y_919) (z := own_y_670) hown (own_w hw 236 rfl) (own_w hw 237 rfl) (mvT hZ (own_w hw 238 rfl)) (own_w hw 248 rfl) (own_w hw 249 rfl) (own_w hw 250 rfl) (own_w hw 251 rfl) (own_w hw 80 rfl) (own_w hw 45 rfl) (own_w hw 252 rfl) own_lm_132 (rmAE l Z a0 hw [] w0 w1 w2 w3 wl wle wd mAL mUL mUR mOA wcs kle kd hS ca h1109 n0 O1118 F1116) e1114 F1119 own_pd_230 (argsL := []) (rest := [(.ref ca_839)]) rfl rfl (g := (mkF m 179 #[.val (.ref a), .val (.ref b), .val (.ref b828), .unset, .unset, .unset] [(.ref ca), (.ref ca_839)])) rfl (by rw [hml]; rfl) rfl (hb hby own_d_prog_17_41_179) (W := 1) rfl (by decide) (by decide) (by decide) (by decide)
    obtain ⟨rfl, M1117, e1117⟩ := hQ1117
    have N1117 := Fr.app N1109 M1117
    refine own_st (fun u_ k_ => st1117 u_ k_) ?_
    show own_Go p e below _ (T1117.setTop (mkF m 184 #[.val (.ref a), .val (.ref b), .val (.ref b828), .unset, .unset, .unset] [(.int (1 : Int32)), (.ref ca_839)]))
    refine own_st (fun u_ k_ => XS.ifNo X1117.here hx rfl (hb hby own_d_prog_17_41_184) rfl (XT.i0_eq_f (by decide)) k_) ?_
    refine own_st (fun u_ k_ => XS.aloadN X1117.here hx rfl (hb hby own_d_prog_17_41_187) rfl rfl k_) ?_
    show own_Go p e below _ (T1117.setTop (mkF m 188 #[.val (.ref a), .val (.ref b), .val (.ref b828), .unset, .unset, .unset] [(.ref b), (.ref ca_839)]))
    have F1120 := (Fld.other W1109 (Fld.other W1098 (Fld.other W1088 (Fld.other W1078 (Fld.other W925 (Fld.other W915 (Fld.other W900 (Fld.other W894 (Fld.other W888 (Fld.other W882 ((Fld.ext E828 D3).keep K838 (ninS ne904 nin0)) (Or.inl ne904)) (Or.inl ne904)) (Or.inl ne904)) (Or.inl ne904)) (Or.inl ne904)) (Or.inl ne904)) (Or.inl ne904)) (Or.inl ne904)) (Or.inl ne904)) (Or.inl ne904))
    obtain ⟨T1121, X1121, e1121, st1121⟩ := getF X1117 hx hZ hown (host := "") (Or.inl (own_w hw 67 rfl)) Via.refl e1117 F1120 (g := (mkF m 188 #[.val (.ref a), .val (.ref b), .val (.ref b828), .unset, .unset, .unset] [(.ref b), (.ref ca_839)])) rfl rfl (hb hby own_d_prog_17_41_188)
    refine own_st (fun u_ k_ => st1121 u_ k_) ?_
    show own_Go p e below _ (T1121.setTop (mkF m 191 #[.val (.ref a), .val (.ref b), .val (.ref b828), .unset, .unset, .unset] [(.ref ca2), (.ref ca_839)]))
    refine own_st (fun u_ k_ => XS.goto X1121.here hx rfl (pc0 := 191) (pc' := 198) rfl (hb hby own_d_prog_17_41_191) (by decide) (by decide) k_) ?_
    have F1122 := (Exa.wr W1109 (Exa.wr W1098 (Exa.wr W1088 (Exa.wr W1078 (Exa.wr W925 (Exa.wr W915 (Exa.wr W900 (Exa.wr W894 (Exa.wr W888 (Exa.wr W882 F866))))))))))
    have g1123 : n0 ≤ ca_839 := Nat.le_trans (own_nl O834) z844
    have ne1124 : ca_839 ≠ b828 := (Ne.symm (Nat.ne_of_lt (Nat.lt_of_lt_of_le F828_constructorArgumentsView.lt z844)))
    have F1125 := (Fld.other W1109 (Fld.other W1098 (Fld.other W1088 (Fld.other W1078 (Fld.other W925 (Fld.other W915 (Fld.other W900 (Fld.other W894 (Fld.other W888 (Fld.other W882 F867 (Or.inl ne1124)) (Or.inl ne1124)) (Or.inl ne1124)) (Or.inl ne1124)) (Or.inl ne1124)) (Or.inl ne1124)) (Or.inl ne1124)) (Or.inl ne1124)) (Or.inl ne1124)) (Or.inl ne1124))
    have F1126 := (Exa.wr W1109 (Exa.wr W1098 (Exa.wr W1088 (Exa.wr W1078 (Exa.wr W925 (Exa.wr W915 (Exa.wr W900 (Exa.wr W894 (Exa.wr W888 (Exa.wr W882 ((Exa.ext E828 L2_0).keep K838)))))))))))
    have ne1127 : ca2 ≠ b828 := (Nat.ne_of_lt (Nat.lt_of_lt_of_le L2_0.lt (Nat.le_of_eq g828.symm)))
    have F1128 := (Fld.other W1109 (Fld.other W1098 (Fld.other W1088 (Fld.other W1078 (Fld.other W925 (Fld.other W915 (Fld.other W900 (Fld.other W894 (Fld.other W888 (Fld.other W882 ((Fld.ext E828 L2_2).keep K838 (ninS ne1127 nin0)) (Or.inl ne1127)) (Or.inl ne1127)) (Or.inl ne1127)) (Or.inl ne1127)) (Or.inl ne1127)) (Or.inl ne1127)) (Or.inl ne1127)) (Or.inl ne1127)) (Or.inl ne1127)) (Or.inl ne1127))
    have F1129 := (Fld.other W1109 (Fld.other W1098 (Fld.other W1088 (Fld.other W1078 (Fld.other W925 (Fld.other W915 (Fld.other W900 (Fld.other W894 (Fld.other W888 (Fld.other W882 ((Fld.ext E828 L2_3).keep K838 (ninS ne1127 nin0)) (Or.inl ne1127)) (Or.inl ne1127)) (Or.inl ne1127)) (Or.inl ne1127)) (Or.inl ne1127)) (Or.inl ne1127)) (Or.inl ne1127)) (Or.inl ne1127)) (Or.inl ne1127)) (Or.inl ne1127))
    obtain ⟨T1130, v1130, L1130, X1130, hQ1130, st1130⟩ := own_callI X1121 hx hZ (y := own_y_963) (z := own_y_736) hown (own_w hw 255 rfl) (own_w hw 256 rfl) (mvT hZ (own_w hw 257 rfl)) (own_w hw 258 rfl) (own_w hw 259 rfl) (own_w hw 260 rfl) (own_w hw 261 rfl) (own_w hw 80 rfl) (own_w hw 45 rfl) (own_w hw 262 rfl) own_lm_132 (rmAA l Z a0 hw [] w0 w1 w2 w3 wl wle wd mAL mUL mUR mOA wcs kle kd hS ca_839 ca2 h1109 n0 O1118 F1122 g1123 F1125 F1126 F1128 F1129) e1121 F1122 own_pd_964 (argsL := [(.ref ca2)]) (rest := []) rfl rfl (g := (mkF m 198 #[.val (.ref a), .val (.ref b), .val (.ref b828), .unset, .unset, .unset] [(.ref ca2), (.ref ca_839)])) rfl (by rw [hml]; rfl) rfl (hb hby own_d_prog_17_41_198) (W := 0) rfl (by decide) (by decide) (by decide) (by decide)
    obtain ⟨rfl, M1130, K1130, F1131⟩ := hQ1130
    have N1130 := Fr.app N1117 M1130
    refine own_st (fun u_ k_ => st1130 u_ k_) ?_
    show own_Go p e below _ (T1130.setTop (mkF m 203 #[.val (.ref a), .val (.ref b), .val (.ref b828), .unset, .unset, .unset] [(.int (0 : Int32))]))
    refine own_st (fun u_ k_ => XS.pop X1130.here hx rfl (hb hby own_d_prog_17_41_203) rfl rfl k_) ?_
    refine own_st (fun u_ k_ => XS.aloadN X1130.here hx rfl (hb hby own_d_prog_17_41_204) rfl rfl k_) ?_
    show own_Go p e below _ (T1130.setTop (mkF m 205 #[.val (.ref a), .val (.ref b), .val (.ref b828), .unset, .unset, .unset] [(.ref b828)]))
    have F1132 := ((Fld.other W1109 (Fld.other W1098 (Fld.other W1088 (Fld.other W1078 (Fld.other W925 (Fld.other W915 (Fld.other W900 (Fld.other W894 (Fld.other W888 (Fld.other W882 F852 (Or.inr (own_sn_969 hw))) (Or.inr (own_sn_971 hw))) (Or.inr (own_sn_973 hw))) (Or.inr (own_sn_276 hw))) (Or.inr (own_sn_975 hw))) (Or.inr (own_sn_977 hw))) (Or.inr (own_sn_624 hw))) (Or.inr (own_sn_979 hw))) (Or.inr (own_sn_981 hw))) (Or.inr (own_sn_278 hw))).keep K1130 (ninS (Ne.symm ne1124) nin0))
    obtain ⟨T1133, X1133, e1133, st1133⟩ := getF X1130 hx hZ hown (host := "") (Or.inl (own_w hw 114 rfl)) Via.refl rfl F1132 (g := (mkF m 205 #[.val (.ref a), .val (.ref b), .val (.ref b828), .unset, .unset, .unset] [(.ref b828)])) rfl rfl (hb hby own_d_prog_17_41_205)
    refine own_st (fun u_ k_ => st1133 u_ k_) ?_
    show own_Go p e below _ (T1133.setTop (mkF m 208 #[.val (.ref a), .val (.ref b), .val (.ref b828), .unset, .unset, .unset] [(.ref pv_840)]))
    refine own_st (fun u_ k_ => XS.aloadN X1133.here hx rfl (hb hby own_d_prog_17_41_208) rfl rfl k_) ?_
    have ne1134 : b ≠ ca_839 := (Nat.ne_of_lt (Nat.lt_of_lt_of_le F831.lt z844))
    have F1135 := ((Fld.other W1109 (Fld.other W1098 (Fld.other W1088 (Fld.other W1078 (Fld.other W925 (Fld.other W915 (Fld.other W900 (Fld.other W894 (Fld.other W888 (Fld.other W882 ((Fld.ext E828 D4).keep K838 (ninS ne904 nin0)) (Or.inl ne904)) (Or.inl ne904)) (Or.inl ne904)) (Or.inl ne904)) (Or.inl ne904)) (Or.inl ne904)) (Or.inl ne904)) (Or.inl ne904)) (Or.inl ne904)) (Or.inl ne904)).keep K1130 (ninS ne1134 nin0))
    obtain ⟨T1136, X1136, e1136, st1136⟩ := getF X1133 hx hZ hown (host := "") (Or.inl (own_w hw 114 rfl)) Via.refl e1133 F1135 (g := (mkF m 209 #[.val (.ref a), .val (.ref b), .val (.ref b828), .unset, .unset, .unset] [(.ref b), (.ref pv_840)])) rfl rfl (hb hby own_d_prog_17_41_209)
    refine own_st (fun u_ k_ => st1136 u_ k_) ?_
    show own_Go p e below _ (T1136.setTop (mkF m 212 #[.val (.ref a), .val (.ref b), .val (.ref b828), .unset, .unset, .unset] [(.ref pv2), (.ref pv_840)]))
    have F1137 := ((Exa.wr W1109 (Exa.wr W1098 (Exa.wr W1088 (Exa.wr W1078 (Exa.wr W925 (Exa.wr W915 (Exa.wr W900 (Exa.wr W894 (Exa.wr W888 (Exa.wr W882 F870)))))))))).keep K1130)
    have g1138 : n0 ≤ pv_840 := Nat.le_trans (own_nl O834) z845
    have ne1139 : pv_840 ≠ b828 := (Ne.symm (Nat.ne_of_lt (Nat.lt_of_lt_of_le F828_constructorArgumentsView.lt z845)))
    have F1140 := ((Fld.other W1109 (Fld.other W1098 (Fld.other W1088 (Fld.other W1078 (Fld.other W925 (Fld.other W915 (Fld.other W900 (Fld.other W894 (Fld.other W888 (Fld.other W882 F871 (Or.inl ne1139)) (Or.inl ne1139)) (Or.inl ne1139)) (Or.inl ne1139)) (Or.inl ne1139)) (Or.inl ne1139)) (Or.inl ne1139)) (Or.inl ne1139)) (Or.inl ne1139)) (Or.inl ne1139)).keep K1130 (ninS (Ne.symm ne_878) nin0))
    have F1141 := ((Exa.wr W1109 (Exa.wr W1098 (Exa.wr W1088 (Exa.wr W1078 (Exa.wr W925 (Exa.wr W915 (Exa.wr W900 (Exa.wr W894 (Exa.wr W888 (Exa.wr W882 ((Exa.ext E828 M2_0).keep K838))))))))))).keep K1130)
    have ne1142 : pv2 ≠ b828 := (Nat.ne_of_lt (Nat.lt_of_lt_of_le M2_0.lt (Nat.le_of_eq g828.symm)))
    have ne1143 : pv2 ≠ ca_839 := (Nat.ne_of_lt (Nat.lt_of_lt_of_le (Nat.lt_of_lt_of_le M2_0.lt E828.1) z844))
    have F1144 := ((Fld.other W1109 (Fld.other W1098 (Fld.other W1088 (Fld.other W1078 (Fld.other W925 (Fld.other W915 (Fld.other W900 (Fld.other W894 (Fld.other W888 (Fld.other W882 ((Fld.ext E828 M2_2).keep K838 (ninS ne1142 nin0)) (Or.inl ne1142)) (Or.inl ne1142)) (Or.inl ne1142)) (Or.inl ne1142)) (Or.inl ne1142)) (Or.inl ne1142)) (Or.inl ne1142)) (Or.inl ne1142)) (Or.inl ne1142)) (Or.inl ne1142)).keep K1130 (ninS ne1143 nin0))
    have F1145 := ((Fld.other W1109 (Fld.other W1098 (Fld.other W1088 (Fld.other W1078 (Fld.other W925 (Fld.other W915 (Fld.other W900 (Fld.other W894 (Fld.other W888 (Fld.other W882 ((Fld.ext E828 M2_3).keep K838 (ninS ne1142 nin0)) (Or.inl ne1142)) (Or.inl ne1142)) (Or.inl ne1142)) (Or.inl ne1142)) (Or.inl ne1142)) (Or.inl ne1142)) (Or.inl ne1142)) (Or.inl ne1142)) (Or.inl ne1142)) (Or.inl ne1142)).keep K1130 (ninS ne1143 nin0))
    have O1147 : Old Z n0 T1130.heap := O1118.keep K1130 (allS g1123 all0)
    obtain ⟨T1146, v1146, L1146, X1146, hQ1146, st1146⟩ := own_callI X1136 hx hZ (y := own_y_963) (z := own_y_736) hown (own_w hw 255 rfl) (own_w hw 256 rfl) (mvT hZ (own_w hw 257 rfl)) (own_w hw 258 rfl) (own_w hw 259 rfl) (own_w hw 260 rfl) (own_w hw 261 rfl) (own_w hw 80 rfl) (own_w hw 45 rfl) (own_w hw 262 rfl) own_lm_132 (rmAA l Z a0 hw [] w0 w1 w2 w3 wl wle wd mAL mUL mUR mOA wcs kle kd hS pv_840 pv2 T1130.heap n0 O1147 F1137 g1138 F1140 F1141 F1144 F1145) e1136 F1137 own_pd_964 (argsL := [(.ref pv2)]) (rest := []) rfl rfl (g := (mkF m 212 #[.val (.ref a), .val (.ref b), .val (.ref b828), .unset, .unset, .unset] [(.ref pv2), (.ref pv_840)])) rfl (by rw [hml]; rfl) rfl (hb hby own_d_prog_17_41_212) (W := 0) rfl (by decide) (by decide) (by decide) (by decide)
    obtain ⟨rfl, M1146, K1146, F1148⟩ := hQ1146
    have N1146 := Fr.app N1130 M1146
    refine own_st (fun u_ k_ => st1146 u_ k_) ?_
    show own_Go p e below _ (T1146.setTop (mkF m 217 #[.val (.ref a), .val (.ref b), .val (.ref b828), .unset, .unset, .unset] [(.int (0 : Int32))]))
    refine own_st (fun u_ k_ => XS.pop X1146.here hx rfl (hb hby own_d_prog_17_41_217) rfl rfl k_) ?_
    refine own_st (fun u_ k_ => XS.aloadN X1146.here hx rfl (hb hby own_d_prog_17_41_218) rfl rfl k_) ?_
    show own_Go p e below _ (T1146.setTop (mkF m 219 #[.val (.ref a), .val (.ref b), .val (.ref b828), .unset, .unset, .unset] [(.ref a)]))
    have ne1149 : a ≠ ca_839 := (Nat.ne_of_lt (Nat.lt_of_lt_of_le F829.lt z844))
    have ne1150 : a ≠ pv_840 := (Nat.ne_of_lt (Nat.lt_of_lt_of_le F829.lt z845))
    have F1151 := (((Fld.other W1109 (Fld.other W1098 (Fld.other W1088 (Fld.other W1078 (Fld.other W925 (Fld.other W915 (Fld.other W900 (Fld.other W894 (Fld.other W888 (Fld.other W882 ((Fld.ext E828 B4).keep K838 (ninS ne879 nin0)) (Or.inl ne879)) (Or.inl ne879)) (Or.inl ne879)) (Or.inl ne879)) (Or.inl ne879)) (Or.inl ne879)) (Or.inl ne879)) (Or.inl ne879)) (Or.inl ne879)) (Or.inl ne879)).keep K1130 (ninS ne1149 nin0)).keep K1146 (ninS ne1150 nin0))
    obtain ⟨T1152, X1152, e1152, st1152⟩ := getF X1146 hx hZ hown (host := "") (Or.inl (own_w hw 114 rfl)) Via.refl rfl F1151 (g := (mkF m 219 #[.val (.ref a), .val (.ref b), .val (.ref b828), .unset, .unset, .unset] [(.ref a)])) rfl rfl (hb hby own_d_prog_17_41_219)
    refine own_st (fun u_ k_ => st1152 u_ k_) ?_
    show own_Go p e below _ (T1152.setTop (mkF m 222 #[.val (.ref a), .val (.ref b), .val (.ref b828), .unset, .unset, .unset] [(.ref pv)]))
    have F1153 := (((Exa.wr W1109 (Exa.wr W1098 (Exa.wr W1088 (Exa.wr W1078 (Exa.wr W925 (Exa.wr W915 (Exa.wr W900 (Exa.wr W894 (Exa.wr W888 (Exa.wr W882 ((Exa.ext E828 M0).keep K838))))))))))).keep K1130).keep K1146)
    have ne1154 : pv ≠ b828 := (Nat.ne_of_lt (Nat.lt_of_lt_of_le M0.lt (Nat.le_of_eq g828.symm)))
    have ne1155 : pv ≠ ca_839 := (Nat.ne_of_lt (Nat.lt_of_lt_of_le (Nat.lt_of_lt_of_le M0.lt E828.1) z844))
    have ne1156 : pv ≠ pv_840 := (Nat.ne_of_lt (Nat.lt_of_lt_of_le (Nat.lt_of_lt_of_le M0.lt E828.1) z845))
    have F1157 := (((Fld.other W1109 (Fld.other W1098 (Fld.other W1088 (Fld.other W1078 (Fld.other W925 (Fld.other W915 (Fld.other W900 (Fld.other W894 (Fld.other W888 (Fld.other W882 ((Fld.ext E828 M1).keep K838 (ninS ne1154 nin0)) (Or.inl ne1154)) (Or.inl ne1154)) (Or.inl ne1154)) (Or.inl ne1154)) (Or.inl ne1154)) (Or.inl ne1154)) (Or.inl ne1154)) (Or.inl ne1154)) (Or.inl ne1154)) (Or.inl ne1154)).keep K1130 (ninS ne1155 nin0)).keep K1146 (ninS ne1156 nin0))
    have O1159 : Old Z n0 T1146.heap := O1147.keep K1146 (allS g1138 all0)
    obtain ⟨T1158, v1158, L1158, X1158, hQ1158, st1158⟩ := own_callI X1152 hx hZ (y := own_y_223) (z := own_y_779) hown (own_w hw 171 rfl) (own_w hw 172 rfl) (mvT hZ (own_w hw 173 rfl)) (own_w hw 294 rfl) (own_w hw 295 rfl) (own_w hw 296 rfl) (own_w hw 297 rfl) (own_w hw 80 rfl) (own_w hw 45 rfl) (own_w hw 298 rfl) own_lm_132 (rmAI l Z a0 hw [] w0 w1 w2 w3 wl wle wd mAL mUL mUR mOA wcs kle kd hS pv T1146.heap n0 O1159 F1153 F1157) e1152 F1153 own_pd_224 (argsL := []) (rest := []) rfl rfl (g := (mkF m 222 #[.val (.ref a), .val (.ref b), .val (.ref b828), .unset, .unset, .unset] [(.ref pv)])) rfl (by rw [hml]; rfl) rfl (hb hby own_d_prog_17_41_222) (W := 0) rfl (by decide) (by decide) (by decide) (by decide)
    obtain ⟨r_1160, rfl, M1158, K1158, z1161, F1162, F1163, F1164⟩ := hQ1158
    have N1158 := Fr.app N1146 M1158
    refine own_st (fun u_ k_ => st1158 u_ k_) ?_
    show own_Go p e below _ (T1158.setTop (mkF m 227 #[.val (.ref a), .val (.ref b), .val (.ref b828), .unset, .unset, .unset] [(.ref r_1160)]))
    refine own_st (fun u_ k_ => XS.astoreN X1158.here hx rfl (hb hby own_d_prog_17_41_227) rfl rfl (l' := #[.val (.ref a), .val (.ref b), .val (.ref b828), .val (.ref r_1160), .unset, .unset]) rfl k_) ?_
    refine own_st (fun u_ k_ => XS.aloadN X1158.here hx rfl (hb hby own_d_prog_17_41_228) rfl rfl k_) ?_
    show own_Go p e below _ (T1158.setTop (mkF m 229 #[.val (.ref a), .val (.ref b), .val (.ref b828), .val (.ref r_1160), .unset, .unset] [(.ref r_1160)]))
    have F1165 := ((((Fld.other W1109 (Fld.other W1098 (Fld.other W1088 (Fld.other W1078 (Fld.other W925 (Fld.other W915 (Fld.other W900 (Fld.other W894 (Fld.other W888 (Fld.other W882 ((Fld.ext E828 M2).keep K838 (ninS ne1154 nin0)) (Or.inl ne1154)) (Or.inl ne1154)) (Or.inl ne1154)) (Or.inl ne1154)) (Or.inl ne1154)) (Or.inl ne1154)) (Or.inl ne1154)) (Or.inl ne1154)) (Or.inl ne1154)) (Or.inl ne1154)).keep K1130 (ninS ne1155 nin0)).keep K1146 (ninS ne1156 nin0)).keep K1158 nin0)
    have O1167 : Old Z n0 T1158.heap := O1159.keep K1158 all0
    obtain ⟨T1166, v1166, L1166, X1166, hQ1166, st1166⟩ := own_callI X1158 hx hZ (y := own_y_228) (z := own_y_788) hown (own_w hw 197 rfl) (own_w hw 198 rfl) (mvT hZ (own_w hw 199 rfl)) (own_w hw 314 rfl) (own_w hw 315 rfl) (own_w hw 316 rfl) (own_w hw 317 rfl) (own_w hw 318 rfl) (own_w hw 301 rfl) (own_w hw 319 rfl) own_lm_229 (rmIH l Z a0 hw [] w0 w1 w2 w3 wl wle wd mAL mUL mUR mOA wcs kle kd hS r_1160 pv T1158.heap n0 O1167 F1163 F1164 F1165) rfl F1162 own_pd_230 (argsL := []) (rest := []) rfl rfl (g := (mkF m 229 #[.val (.ref a), .val (.ref b), .val (.ref b828), .val (.ref r_1160), .unset, .unset] [(.ref r_1160)])) rfl (by rw [hml]; rfl) rfl (hb hby own_d_prog_17_41_229) (W := 0) rfl (by decide) (by decide) (by decide) (by decide)
    obtain ⟨rfl, M1166, e1166⟩ := hQ1166
    have N1166 := Fr.app N1158 M1166
    refine own_st (fun u_ k_ => st1166 u_ k_) ?_
    show own_Go p e below _ (T1166.setTop (mkF m 234 #[.val (.ref a), .val (.ref b), .val (.ref b828), .val (.ref r_1160), .unset, .unset] [(.int (0 : Int32))]))
    refine own_st (fun u_ k_ => XS.ifYes X1166.here hx rfl (pc0 := 234) (pc' := 294) rfl (hb hby own_d_prog_17_41_234) rfl (XT.i0_eq_t (by decide)) (by decide) (by decide) k_) ?_
    refine own_st (fun u_ k_ => XS.aloadN X1166.here hx rfl (hb hby own_d_prog_17_41_294) rfl rfl k_) ?_
    show own_Go p e below _ (T1166.setTop (mkF m 295 #[.val (.ref a), .val (.ref b), .val (.ref b828), .val (.ref r_1160), .unset, .unset] [(.ref b828)]))
    refine own_st (fun u_ k_ => XS.aloadN X1166.here hx rfl (hb hby own_d_prog_17_41_295) rfl rfl k_) ?_
    have F1168 := ((((Fld.other W1109 (Fld.other W1098 (Fld.other W1088 (Fld.other W1078 (Fld.other W925 (Fld.other W915 (Fld.other W900 (Fld.other W894 (Fld.other W888 (Fld.other W882 ((Fld.ext E828 B15).keep K838 (ninS ne879 nin0)) (Or.inl ne879)) (Or.inl ne879)) (Or.inl ne879)) (Or.inl ne879)) (Or.inl ne879)) (Or.inl ne879)) (Or.inl ne879)) (Or.inl ne879)) (Or.inl ne879)) (Or.inl ne879)).keep K1130 (ninS ne1149 nin0)).keep K1146 (ninS ne1150 nin0)).keep K1158 nin0)
    obtain ⟨T1169, X1169, e1169, st1169⟩ := getF X1166 hx hZ hown (host := "") (Or.inl (own_w hw 323 rfl)) Via.refl e1166 F1168 (g := (mkF m 296 #[.val (.ref a), .val (.ref b), .val (.ref b828), .val (.ref r_1160), .unset, .unset] [(.ref a), (.ref b828)])) rfl rfl (hb hby own_d_prog_17_41_296)
    refine own_st (fun u_ k_ => st1169 u_ k_) ?_
    show own_Go p e below _ (T1169.setTop (mkF m 299 #[.val (.ref a), .val (.ref b), .val (.ref b828), .val (.ref r_1160), .unset, .unset] [.null, (.ref b828)]))
    refine own_st (fun u_ k_ => XS.aloadN X1169.here hx rfl (hb hby own_d_prog_17_41_299) rfl rfl k_) ?_
    have ne1170 : b ≠ pv_840 := (Nat.ne_of_lt (Nat.lt_of_lt_of_le F831.lt z845))
    have F1171 := ((((Fld.other W1109 (Fld.other W1098 (Fld.other W1088 (Fld.other W1078 (Fld.other W925 (Fld.other W915 (Fld.other W900 (Fld.other W894 (Fld.other W888 (Fld.other W882 ((Fld.ext E828 D15).keep K838 (ninS ne904 nin0)) (Or.inl ne904)) (Or.inl ne904)) (Or.inl ne904)) (Or.inl ne904)) (Or.inl ne904)) (Or.inl ne904)) (Or.inl ne904)) (Or.inl ne904)) (Or.inl ne904)) (Or.inl ne904)).keep K1130 (ninS ne1134 nin0)).keep K1146 (ninS ne1170 nin0)).keep K1158 nin0)
    obtain ⟨T1172, X1172, e1172, st1172⟩ := getF X1169 hx hZ hown (host := "") (Or.inl (own_w hw 323 rfl)) Via.refl e1169 F1171 (g := (mkF m 300 #[.val (.ref a), .val (.ref b), .val (.ref b828), .val (.ref r_1160), .unset, .unset] [(.ref b), .null, (.ref b828)])) rfl rfl (hb hby own_d_prog_17_41_300)
    refine own_st (fun u_ k_ => st1172 u_ k_) ?_
    show own_Go p e below _ (T1172.setTop (mkF m 303 #[.val (.ref a), .val (.ref b), .val (.ref b828), .val (.ref r_1160), .unset, .unset] [.null, .null, (.ref b828)]))
    obtain ⟨T1173, v1173, L1173, X1173, hQ1173, st1173⟩ := own_callS X1172 hx hZ (y := own_y_652) hown (own_w hw 215 rfl) (own_w hw 216 rfl) (own_w hw 28 rfl) (own_w hw 217 rfl) own_lm_615 (rmEN l Z a0 hw [] w0 w1 w2 w3 wl wle wd mAL mUL mUR mOA wcs kle kd hS  T1158.heap n0 O1167 ) e1172 own_pd_796 (argsL := [.null, .null]) (rest := [(.ref b828)]) rfl rfl (g := (mkF m 303 #[.val (.ref a), .val (.ref b), .val (.ref b828), .val (.ref r_1160), .unset, .unset] [.null, .null, (.ref b828)])) rfl (by rw [hml]; rfl) rfl (hb hby own_d_prog_17_41_303) (W := 1) rfl (by decide) (by decide) (by decide) (by decide)
    obtain ⟨rfl, M1173, e1173⟩ := hQ1173
    have N1173 := Fr.app N1166 M1173
    refine own_st (fun u_ k_ => st1173 u_ k_) ?_
    show own_Go p e below _ (T1173.setTop (mkF m 306 #[.val (.ref a), .val (.ref b), .val (.ref b828), .val (.ref r_1160), .unset, .unset] [.null, (.ref b828)]))
    refine own_st (X1173.checkcastNull hx (g := (mkF m 306 #[.val (.ref a), .val (.ref b), .val (.ref b828), .val (.ref r_1160), .unset, .unset] [.null, (.ref b828)])) rfl rfl (hb hby own_d_prog_17_41_306)) ?_
    show own_Go p e below _ (T1173.setTop (mkF m 309 #[.val (.ref a), .val (.ref b), .val (.ref b828), .val (.ref r_1160), .unset, .unset] [.null, (.ref b828)]))
    have F1174 := ((((Exa.wr W1109 F1107).keep K1130).keep K1146).keep K1158)
    have F1175 := ((((Fld.other W1109 (Fld.other W1098 (Fld.other W1088 (Fld.other W1078 (Fld.other W925 (Fld.other W915 (Fld.other W900 (Fld.other W894 (Fld.other W888 (Fld.other W882 F863 (Or.inr (own_sn_1002 hw))) (Or.inr (own_sn_1004 hw))) (Or.inr (own_sn_1006 hw))) (Or.inr (own_sn_511 hw))) (Or.inr (own_sn_1008 hw))) (Or.inr (own_sn_1010 hw))) (Or.inr (own_sn_642 hw))) (Or.inr (own_sn_1012 hw))) (Or.inr (own_sn_1014 hw))) (Or.inr (own_sn_513 hw))).keep K1130 (ninS (Ne.symm ne1124) nin0)).keep K1146 (ninS (Ne.symm ne1139) nin0)).keep K1158 nin0)
    obtain ⟨T1176, h1176, X1176, e1176, W1176, st1176⟩ := putF X1173 hx hZ hown (host := "") (Or.inl (own_w hw 323 rfl)) Via.refl e1173 F1175 F1174 (Or.inl (own_w hw 324 rfl)) (own_w hw 27 rfl) (ty := (.object "java/lang/String")) own_lm_319 rfl rfl (g := (mkF m 309 #[.val (.ref a), .val (.ref b), .val (.ref b828), .val (.ref r_1160), .unset, .unset] [.null, (.ref b828)])) rfl rfl (hb hby own_d_prog_17_41_309)
    have N1176 := Fr.snoc X1176 N1173 g837
    have F1177 : Fld Z h1176 b828 own_c_235 "initMethodName" "Ljava/lang/String;" .null := Fld.same W1176 F1175
    refine own_st (fun u_ k_ => st1176 u_ k_) ?_
    show own_Go p e below _ (T1176.setTop (mkF m 312 #[.val (.ref a), .val (.ref b), .val (.ref b828), .val (.ref r_1160), .unset, .unset] []))
    refine own_st (fun u_ k_ => XS.aloadN X1176.here hx rfl (hb hby own_d_prog_17_41_312) rfl rfl k_) ?_
    refine own_st (fun u_ k_ => XS.aloadN X1176.here hx rfl (hb hby own_d_prog_17_41_313) rfl rfl k_) ?_
    show own_Go p e below _ (T1176.setTop (mkF m 314 #[.val (.ref a), .val (.ref b), .val (.ref b828), .val (.ref r_1160), .unset, .unset] [(.ref a), (.ref b828)]))
    have F1178 := (Fld.other W1176 ((((Fld.other W1109 (Fld.other W1098 (Fld.other W1088 (Fld.other W1078 (Fld.other W925 (Fld.other W915 (Fld.other W900 (Fld.other W894 (Fld.other W888 (Fld.other W882 ((Fld.ext E828 B16).keep K838 (ninS ne879 nin0)) (Or.inl ne879)) (Or.inl ne879)) (Or.inl ne879)) (Or.inl ne879)) (Or.inl ne879)) (Or.inl ne879)) (Or.inl ne879)) (Or.inl ne879)) (Or.inl ne879)) (Or.inl ne879)).keep K1130 (ninS ne1149 nin0)).keep K1146 (ninS ne1150 nin0)).keep K1158 nin0) (Or.inl ne879))
    obtain ⟨T1179, X1179, e1179, st1179⟩ := getF X1176 hx hZ hown (host := "") (Or.inl (own_w hw 325 rfl)) Via.refl e1176 F1178 (g := (mkF m 314 #[.val (.ref a), .val (.ref b), .val (.ref b828), .val (.ref r_1160), .unset, .unset] [(.ref a), (.ref b828)])) rfl rfl (hb hby own_d_prog_17_41_314)
    refine own_st (fun u_ k_ => st1179 u_ k_) ?_
    show own_Go p e below _ (T1179.setTop (mkF m 317 #[.val (.ref a), .val (.ref b), .val (.ref b828), .val (.ref r_1160), .unset, .unset] [.null, (.ref b828)]))
    refine own_st (fun u_ k_ => XS.aloadN X1179.here hx rfl (hb hby own_d_prog_17_41_317) rfl rfl k_) ?_
    have F1180 := (Fld.other W1176 ((((Fld.other W1109 (Fld.other W1098 (Fld.other W1088 (Fld.other W1078 (Fld.other W925 (Fld.other W915 (Fld.other W900 (Fld.other W894 (Fld.other W888 (Fld.other W882 ((Fld.ext E828 D16).keep K838 (ninS ne904 nin0)) (Or.inl ne904)) (Or.inl ne904)) (Or.inl ne904)) (Or.inl ne904)) (Or.inl ne904)) (Or.inl ne904)) (Or.inl ne904)) (Or.inl ne904)) (Or.inl ne904)) (Or.inl ne904)).keep K1130 (ninS ne1134 nin0)).keep K1146 (ninS ne1170 nin0)).keep K1158 nin0) (Or.inl ne904))
    obtain ⟨T1181, X1181, e1181, st1181⟩ := getF X1179 hx hZ hown (host := "") (Or.inl (own_w hw 325 rfl)) Via.refl e1179 F1180 (g := (mkF m 318 #[.val (.ref a), .val (.ref b), .val (.ref b828), .val (.ref r_1160), .unset, .unset] [(.ref b), .null, (.ref b828)])) rfl rfl (hb hby own_d_prog_17_41_318)
    refine own_st (fun u_ k_ => st1181 u_ k_) ?_
    show own_Go p e below _ (T1181.setTop (mkF m 321 #[.val (.ref a), .val (.ref b), .val (.ref b828), .val (.ref r_1160), .unset, .unset] [.null, .null, (.ref b828)]))
    have O1183 : Old Z n0 h1176 := O1167.wr W1176 g837
    obtain ⟨T1182, v1182, L1182, X1182, hQ1182, st1182⟩ := own_callS X1181 hx hZ (y := own_y_652) hown (own_w hw 215 rfl) (own_w hw 216 rfl) (own_w hw 28 rfl) (own_w hw 217 rfl) own_lm_615 (rmEN l Z a0 hw [] w0 w1 w2 w3 wl wle wd mAL mUL mUR mOA wcs kle kd hS  h1176 n0 O1183 ) e1181 own_pd_796 (argsL := [.null, .null]) (rest := [(.ref b828)]) rfl rfl (g := (mkF m 321 #[.val (.ref a), .val (.ref b), .val (.ref b828), .val (.ref r_1160), .unset, .unset] [.null, .null, (.ref b828)])) rfl (by rw [hml]; rfl) rfl (hb hby own_d_prog_17_41_321) (W := 1) rfl (by decide) (by decide) (by decide) (by decide)
    obtain ⟨rfl, M1182, e1182⟩ := hQ1182
    have N1182 := Fr.app N1176 M1182
    refine own_st (fun u_ k_ => st1182 u_ k_) ?_
    show own_Go p e below _ (T1182.setTop (mkF m 324 #[.val (.ref a), .val (.ref b), .val (.ref b828), .val (.ref r_1160), .unset, .unset] [.null, (.ref b828)]))
    refine own_st (X1182.checkcastNull hx (g := (mkF m 324 #[.val (.ref a), .val (.ref b), .val (.ref b828), .val (.ref r_1160), .unset, .unset] [.null, (.ref b828)])) rfl rfl (hb hby own_d_prog_17_41_324)) ?_
    show own_Go p e below _ (T1182.setTop (mkF m 327 #[.val (.ref a), .val (.ref b), .val (.ref b828), .val (.ref r_1160), .unset, .unset] [.null, (.ref b828)]))
    have F1184 := (Exa.wr W1176 F1174)
    have F1185 := (Fld.other W1176 ((((Fld.other W1109 (Fld.other W1098 (Fld.other W1088 (Fld.other W1078 (Fld.other W925 (Fld.other W915 (Fld.other W900 (Fld.other W894 (Fld.other W888 (Fld.other W882 F864 (Or.inr (own_sn_1024 hw))) (Or.inr (own_sn_1026 hw))) (Or.inr (own_sn_1028 hw))) (Or.inr (own_sn_527 hw))) (Or.inr (own_sn_1030 hw))) (Or.inr (own_sn_1032 hw))) (Or.inr (own_sn_644 hw))) (Or.inr (own_sn_1034 hw))) (Or.inr (own_sn_1036 hw))) (Or.inr (own_sn_529 hw))).keep K1130 (ninS (Ne.symm ne1124) nin0)).keep K1146 (ninS (Ne.symm ne1139) nin0)).keep K1158 nin0) (Or.inr (own_sn_1038 hw)))
    obtain ⟨T1186, h1186, X1186, e1186, W1186, st1186⟩ := putF X1182 hx hZ hown (host := "") (Or.inl (own_w hw 325 rfl)) Via.refl e1182 F1185 F1184 (Or.inl (own_w hw 326 rfl)) (own_w hw 27 rfl) (ty := (.object "java/lang/String")) own_lm_319 rfl rfl (g := (mkF m 327 #[.val (.ref a), .val (.ref b), .val (.ref b828), .val (.ref r_1160), .unset, .unset] [.null, (.ref b828)])) rfl rfl (hb hby own_d_prog_17_41_327)
    have N1186 := Fr.snoc X1186 N1182 g837
    have F1187 : Fld Z h1186 b828 own_c_235 "destroyMethodName" "Ljava/lang/String;" .null := Fld.same W1186 F1185
    refine own_st (fun u_ k_ => st1186 u_ k_) ?_
    show own_Go p e below _ (T1186.setTop (mkF m 330 #[.val (.ref a), .val (.ref b), .val (.ref b828), .val (.ref r_1160), .unset, .unset] []))
    refine own_st (fun u_ k_ => XS.aloadN X1186.here hx rfl (hb hby own_d_prog_17_41_330) rfl rfl k_) ?_
    refine own_st (fun u_ k_ => XS.aloadN X1186.here hx rfl (hb hby own_d_prog_17_41_331) rfl rfl k_) ?_
    show own_Go p e below _ (T1186.setTop (mkF m 332 #[.val (.ref a), .val (.ref b), .val (.ref b828), .val (.ref r_1160), .unset, .unset] [(.ref a), (.ref b828)]))
    have F1188 := (Fld.other W1186 (Fld.other W1176 ((((Fld.other W1109 (Fld.other W1098 (Fld.other W1088 (Fld.other W1078 (Fld.other W925 (Fld.other W915 (Fld.other W900 (Fld.other W894 (Fld.other W888 (Fld.other W882 ((Fld.ext E828 B17).keep K838 (ninS ne879 nin0)) (Or.inl ne879)) (Or.inl ne879)) (Or.inl ne879)) (Or.inl ne879)) (Or.inl ne879)) (Or.inl ne879)) (Or.inl ne879)) (Or.inl ne879)) (Or.inl ne879)) (Or.inl ne879)).keep K1130 (ninS ne1149 nin0)).keep K1146 (ninS ne1150 nin0)).keep K1158 nin0) (Or.inl ne879)) (Or.inl ne879))
    obtain ⟨T1189, X1189, e1189, st1189⟩ := getF X1186 hx hZ hown (host := "") (Or.inl (own_w hw 327 rfl)) Via.refl e1186 F1188 (g := (mkF m 332 #[.val (.ref a), .val (.ref b), .val (.ref b828), .val (.ref r_1160), .unset, .unset] [(.ref a), (.ref b828)])) rfl rfl (hb hby own_d_prog_17_41_332)
    refine own_st (fun u_ k_ => st1189 u_ k_) ?_
    show own_Go p e below _ (T1189.setTop (mkF m 335 #[.val (.ref a), .val (.ref b), .val (.ref b828), .val (.ref r_1160), .unset, .unset] [.null, (.ref b828)]))
    have F1190 := (Exa.wr W1186 F1184)
    have F1191 := (Fld.other W1186 (Fld.other W1176 ((((Fld.other W1109 (Fld.other W1098 (Fld.other W1088 (Fld.other W1078 (Fld.other W925 (Fld.other W915 (Fld.other W900 (Fld.other W894 (Fld.other W888 (Fld.other W882 F865 (Or.inr (own_sn_1044 hw))) (Or.inr (own_sn_1046 hw))) (Or.inr (own_sn_1048 hw))) (Or.inr (own_sn_543 hw))) (Or.inr (own_sn_1050 hw))) (Or.inr (own_sn_1052 hw))) (Or.inr (own_sn_646 hw))) (Or.inr (own_sn_1054 hw))) (Or.inr (own_sn_1056 hw))) (Or.inr (own_sn_545 hw))).keep K1130 (ninS (Ne.symm ne1124) nin0)).keep K1146 (ninS (Ne.symm ne1139) nin0)).keep K1158 nin0) (Or.inr (own_sn_1058 hw))) (Or.inr (own_sn_1060 hw)))
    obtain ⟨T1192, h1192, X1192, e1192, W1192, st1192⟩ := putF X1189 hx hZ hown (host := "") (Or.inl (own_w hw 327 rfl)) Via.refl e1189 F1191 F1190 (Or.inl (own_w hw 328 rfl)) (own_w hw 27 rfl) (ty := (.object "java/lang/String")) own_lm_319 rfl rfl (g := (mkF m 335 #[.val (.ref a), .val (.ref b), .val (.ref b828), .val (.ref r_1160), .unset, .unset] [.null, (.ref b828)])) rfl rfl (hb hby own_d_prog_17_41_335)
    have N1192 := Fr.snoc X1192 N1186 g837
    have F1193 : Fld Z h1192 b828 own_c_235 "origin" "Ljava/lang/String;" .null := Fld.same W1192 F1191
    refine own_st (fun u_ k_ => st1192 u_ k_) ?_
    show own_Go p e below _ (T1192.setTop (mkF m 338 #[.val (.ref a), .val (.ref b), .val (.ref b828), .val (.ref r_1160), .unset, .unset] []))
    refine own_st (fun u_ k_ => XS.aloadN X1192.here hx rfl (hb hby own_d_prog_17_41_338) rfl rfl k_) ?_
    have K1194 : Keep h0 h828 [] := (Keep.refl h0 []).ext E828
    have z1196 : h0.size ≤ b828 := Nat.le_trans (Nat.le_refl _) (Nat.le_of_eq g828.symm)
    have K1195 : Keep h0 T838.heap [] := K1194.trans K838 (allS (Or.inr z1196) all0)
    have K1197 : Keep h0 h882 [] := K1195.wr W882 (Or.inr z1196)
    have K1198 : Keep h0 h888 [] := K1197.wr W888 (Or.inr z1196)
    have K1199 : Keep h0 h894 [] := K1198.wr W894 (Or.inr z1196)
    have K1200 : Keep h0 h900 [] := K1199.wr W900 (Or.inr z1196)
    have K1201 : Keep h0 h915 [] := K1200.wr W915 (Or.inr z1196)
    have K1202 : Keep h0 h925 [] := K1201.wr W925 (Or.inr z1196)
    have K1203 : Keep h0 h1078 [] := K1202.wr W1078 (Or.inr z1196)
    have K1204 : Keep h0 h1088 [] := K1203.wr W1088 (Or.inr z1196)
    have K1205 : Keep h0 h1098 [] := K1204.wr W1098 (Or.inr z1196)
    have K1206 : Keep h0 h1109 [] := K1205.wr W1109 (Or.inr z1196)
    have z1208 : h0.size ≤ ca_839 := Nat.le_trans E828.1 z844
    have K1207 : Keep h0 T1130.heap [] := K1206.trans K1130 (allS (Or.inr z1208) all0)
    have z1210 : h0.size ≤ pv_840 := Nat.le_trans E828.1 z845
    have K1209 : Keep h0 T1146.heap [] := K1207.trans K1146 (allS (Or.inr z1210) all0)
    have K1211 : Keep h0 T1158.heap [] := K1209.trans K1158 all0
    have K1212 : Keep h0 h1176 [] := K1211.wr W1176 (Or.inr z1196)
    have K1213 : Keep h0 h1186 [] := K1212.wr W1186 (Or.inr z1196)
    have K1214 : Keep h0 h1192 [] := K1213.wr W1192 (Or.inr z1196)
    have F1215 := (Exa.wr W1192 F1190)
    have F1216 := (Fld.other W1192 (Fld.other W1186 (Fld.other W1176 ((((Fld.other W1109 (Fld.other W1098 (Fld.other W1088 F1079 (Or.inr (own_sn_1064 hw))) (Or.inr (own_sn_1066 hw))) (Or.inr (own_sn_382 hw))).keep K1130 (ninS (Ne.symm ne1124) nin0)).keep K1146 (ninS (Ne.symm ne1139) nin0)).keep K1158 nin0) (Or.inr (own_sn_1068 hw))) (Or.inr (own_sn_1070 hw))) (Or.inr (own_sn_1072 hw)))
    exact own_retX X1192 hx hlk hret rfl (Or.inr (Or.inr (Or.inr (Or.inr ⟨rfl, rfl, rfl⟩)))) (hb hby own_d_prog_17_41_339) (by decide) (by decide) (show QrmMR Z w0 w1 w2 w3 wl wle wd mAL mUL mUR mOA wcs kle kd a b cs ca pv wt u1 ca2 pv2 wt2 u2 h0 n0 (some (.ref b828)) T1192.heap _ from (by rw [e1192]; exact ⟨b828, (.ref wq), rfl, N1192, K1214, z1196, F1215, F1216, hq.symm⟩))
theorem own_pd_1074 : parseMethodDescriptor "()Lcom/example/temanggung/temanggung/beans/factory/Autowire;" = some ⟨[], some (.object "com/example/temanggung/temanggung/beans/factory/Autowire")⟩ := by decide +kernel
theorem own_lm_1075 : ("com/example/temanggung/temanggung/beans/factory/BeanDefinitionGetAutowirePinLaw" : String) ≠ "java/lang/invoke/MethodHandle" ∧ ("com/example/temanggung/temanggung/beans/factory/BeanDefinitionGetAutowirePinLaw" : String) ≠ "java/lang/invoke/VarHandle" := by decide +kernel
theorem own_pd_1076 : parseMethodDescriptor "(I)Lcom/example/temanggung/temanggung/beans/factory/Autowire;" = some ⟨[.int], some (.object "com/example/temanggung/temanggung/beans/factory/Autowire")⟩ := by decide +kernel
theorem own_pd_1077 : parseMethodDescriptor "(Lcom/example/temanggung/temanggung/beans/factory/Autowire;)V" = some ⟨[(.object "com/example/temanggung/temanggung/beans/factory/Autowire")], none⟩ := by decide +kernel
theorem own_pd_1078 : parseMethodDescriptor "(Lcom/example/temanggung/temanggung/beans/factory/Autowire;)Lcom/example/temanggung/temanggung/beans/factory/Autowire;" = some ⟨[(.object "com/example/temanggung/temanggung/beans/factory/Autowire")], some (.object "com/example/temanggung/temanggung/beans/factory/Autowire")⟩ := by decide +kernel
theorem own_pd_1079 : parseMethodDescriptor "(Lcom/example/temanggung/temanggung/beans/factory/BeanDefinition;)Lcom/example/temanggung/temanggung/beans/factory/BeanDefinition;" = some ⟨[(.object "com/example/temanggung/temanggung/beans/factory/BeanDefinition")], some (.object "com/example/temanggung/temanggung/beans/factory/BeanDefinition")⟩ := by decide +kernel
theorem own_pd_1080 : parseMethodDescriptor "(C)Ljava/lang/String;" = some ⟨[.char], some (.object "java/lang/String")⟩ := by decide +kernel
-- the law itself
theorem own_ef_rm0 (m : MethodId) (k1 : Int32) (k2 : Int32) (k3 : Int32) (fl : Int32) (ch : Int32)  : entryFrame m #[(.int k1), (.int k2), (.int k3), (.int fl), (.int ch)] maxLocals = mkF m 0 #[.val (.int k1), .val (.int k2), .val (.int k3), .val (.int fl), .val (.int ch), .unset, .unset, .unset, .unset, .unset, .unset, .unset, .unset, .unset, .unset] [] := by first | (simp [entryFrame, mkF, argsToLocals, Value.category, maxLocals]; done) | rfl
def Qrm0 (Z : State) (w0 w1 w2 w3 wl wle wd mAL mUL mUR mOA : Addr) (wcs : Int32) (kle kd : ClassId) (k1 : Int32) (k2 : Int32) (k3 : Int32) (fl : Int32) (ch : Int32) (h0 : Heap) (n0 : Nat) (v : Option Value) (h : Heap) (L : List Loc) : Prop := v = some (.int (1 : Int32)) ∧ Fr n0 L ∧ Keep h0 h []
set_option maxRecDepth 65536 in
set_option maxHeartbeats 40000000 in
theorem rm0 (l : Launch) (Z : State) (a0 : Array Value) (hw : own_H a0 Z) (ws : List Jvm.Cond) (w0 w1 w2 w3 wl wle wd mAL mUL mUR mOA : Addr) (wcs : Int32) (kle kd : ClassId) (hS : own_S Z w0 w1 w2 w3 wl wle wd mAL mUL mUR mOA wcs kle kd) (k1 : Int32) (k2 : Int32) (k3 : Int32) (fl : Int32) (ch : Int32) (h0 : Heap) (n0 : Nat) (O0 : Old Z n0 h0)  :
    own_Met l x code maxLocals ret ws room_1 Z h0 #[(.int k1), (.int k2), (.int k3), (.int fl), (.int ch)] (Qrm0 Z w0 w1 w2 w3 wl wle wd mAL mUL mUR mOA wcs kle kd k1 k2 k3 fl ch h0 n0) := by
  refine own_body (plainFor_of_name own_pn_577) ?_
  intro p e s m below meth c s₁ hx hby hml hown hnm hret hlk hZ e0 X0
  have N0 := Fr.nil n0
  refine own_st (fun u_ k_ => castTop (own_ef_rm0 m k1 k2 k3 fl ch) k_) ?_
  show own_Go p e below _ (s₁.setTop (mkF m 0 #[.val (.int k1), .val (.int k2), .val (.int k3), .val (.int fl), .val (.int ch), .unset, .unset, .unset, .unset, .unset, .unset, .unset, .unset, .unset, .unset] []))
  refine own_st (fun u_ k_ => XS.iloadN X0.here hx rfl (hb hby at_0) rfl k_) ?_
  refine own_st (fun u_ k_ => XS.iconst X0.here hx rfl (hb hby at_1) k_) ?_
  show own_Go p e below _ (s₁.setTop (mkF m 2 #[.val (.int k1), .val (.int k2), .val (.int k3), .val (.int fl), .val (.int ch), .unset, .unset, .unset, .unset, .unset, .unset, .unset, .unset, .unset, .unset] [(.int (1 : Int32)), (.int fl)]))
  refine own_st (fun u_ k_ => XS.iand X0.here hx rfl (hb hby at_2) rfl k_) ?_
  by_cases hc1217 : (fl &&& (1 : Int32)) = (0 : Int32)
  · refine own_st (fun u_ k_ => XS.ifYes X0.here hx rfl (pc0 := 3) (pc' := 19) rfl (hb hby at_3) rfl (XT.i0_eq_t hc1217) (by decide) (by decide) k_) ?_
    show own_Go p e below _ (s₁.setTop (mkF m 19 #[.val (.int k1), .val (.int k2), .val (.int k3), .val (.int fl), .val (.int ch), .unset, .unset, .unset, .unset, .unset, .unset, .unset, .unset, .unset, .unset] []))
    refine own_st (fun u_ k_ => XS.aconstNull X0.here hx rfl (hb hby at_19) k_) ?_
    refine own_st (fun u_ k_ => XS.astore X0.here hx rfl (hb hby at_20) rfl rfl (l' := #[.val (.int k1), .val (.int k2), .val (.int k3), .val (.int fl), .val (.int ch), .val .null, .unset, .unset, .unset, .unset, .unset, .unset, .unset, .unset, .unset]) rfl k_) ?_
    show own_Go p e below _ (s₁.setTop (mkF m 22 #[.val (.int k1), .val (.int k2), .val (.int k3), .val (.int fl), .val (.int ch), .val .null, .unset, .unset, .unset, .unset, .unset, .unset, .unset, .unset, .unset] []))
    obtain ⟨T1218, h1218, X1218, e1218, E1218, A1218, D1218, U1218, st1218⟩ := newO X0 hx hZ hown (own_w hw 26 rfl) (own_w hw 27 rfl) (own_w hw 28 rfl) e0 (g := (mkF m 22 #[.val (.int k1), .val (.int k2), .val (.int k3), .val (.int fl), .val (.int ch), .val .null, .unset, .unset, .unset, .unset, .unset, .unset, .unset, .unset, .unset] [])) rfl (hb hby at_22) (by decide) (by decide)
    obtain ⟨b1218, g1218⟩ : ∃ z, z = h0.size := ⟨_, rfl⟩
    rw [← g1218] at A1218 D1218 U1218 st1218
    have F1218_qualifiers : Fld Z h1218 b1218 own_c_235 "qualifiers" "Ljava/util/List;" .null := D1218 (Or.inl (own_w hw 40 rfl)) (ty := (.object "java/util/List")) own_lm_104
    have F1218_dependsOn : Fld Z h1218 b1218 own_c_235 "dependsOn" "Ljava/util/List;" .null := D1218 (Or.inl (own_w hw 42 rfl)) (ty := (.object "java/util/List")) own_lm_104
    have F1218_constructorArguments : Fld Z h1218 b1218 own_c_235 "constructorArguments" "Ljava/util/List;" .null := D1218 (Or.inr (own_w hw 68 rfl)) (ty := (.object "java/util/List")) own_lm_104
    have F1218_constructorArgumentsView : Fld Z h1218 b1218 own_c_235 "constructorArgumentsView" "Ljava/util/List;" .null := D1218 (Or.inr (own_w hw 113 rfl)) (ty := (.object "java/util/List")) own_lm_104
    have F1218_propertyValues : Fld Z h1218 b1218 own_c_235 "propertyValues" "Ljava/util/List;" .null := D1218 (Or.inr (own_w hw 115 rfl)) (ty := (.object "java/util/List")) own_lm_104
    have F1218_propertyValuesView : Fld Z h1218 b1218 own_c_235 "propertyValuesView" "Ljava/util/List;" .null := D1218 (Or.inr (own_w hw 117 rfl)) (ty := (.object "java/util/List")) own_lm_104
    have F1218_watchers : Fld Z h1218 b1218 own_c_235 "watchers" "Ljava/util/List;" .null := D1218 (Or.inr (own_w hw 139 rfl)) (ty := (.object "java/util/List")) own_lm_104
    have F1218_className : Fld Z h1218 b1218 own_c_235 "className" "Ljava/lang/String;" .null := D1218 (Or.inl (own_w hw 141 rfl)) (ty := (.object "java/lang/String")) own_lm_319
    have F1218_autowire : Fld Z h1218 b1218 own_c_235 "autowire" own_c_559 .null := D1218 (Or.inl (own_w hw 148 rfl)) (ty := (.object "com/example/temanggung/temanggung/beans/factory/Autowire")) own_lm_379
    have F1218_value : Fld Z h1218 b1218 own_c_235 "value" own_c_560 .null := D1218 (Or.inl (own_w hw 221 rfl)) (ty := (.object "com/example/temanggung/temanggung/beans/factory/DefinedValue")) own_lm_396
    have F1218_abstractDefinition : Fld Z h1218 b1218 own_c_235 "abstractDefinition" "Z" (.int (0 : Int32)) := D1218 (Or.inl (own_w hw 223 rfl)) (ty := .boolean) own_lm_413
    have F1218_primary : Fld Z h1218 b1218 own_c_235 "primary" "Z" (.int (0 : Int32)) := D1218 (Or.inl (own_w hw 225 rfl)) (ty := .boolean) own_lm_413
    have F1218_scope : Fld Z h1218 b1218 own_c_235 "scope" "Ljava/lang/String;" .null := D1218 (Or.inl (own_w hw 227 rfl)) (ty := (.object "java/lang/String")) own_lm_319
    have F1218_lazyInit : Fld Z h1218 b1218 own_c_235 "lazyInit" "Ljava/lang/Boolean;" .null := D1218 (Or.inl (own_w hw 229 rfl)) (ty := (.object "java/lang/Boolean")) own_lm_462
    have F1218_factoryBeanName : Fld Z h1218 b1218 own_c_235 "factoryBeanName" "Ljava/lang/String;" .null := D1218 (Or.inl (own_w hw 233 rfl)) (ty := (.object "java/lang/String")) own_lm_319
    have F1218_factoryMethodName : Fld Z h1218 b1218 own_c_235 "factoryMethodName" "Ljava/lang/String;" .null := D1218 (Or.inl (own_w hw 235 rfl)) (ty := (.object "java/lang/String")) own_lm_319
    have F1218_initMethodName : Fld Z h1218 b1218 own_c_235 "initMethodName" "Ljava/lang/String;" .null := D1218 (Or.inl (own_w hw 324 rfl)) (ty := (.object "java/lang/String")) own_lm_319
    have F1218_destroyMethodName : Fld Z h1218 b1218 own_c_235 "destroyMethodName" "Ljava/lang/String;" .null := D1218 (Or.inl (own_w hw 326 rfl)) (ty := (.object "java/lang/String")) own_lm_319
    have F1218_origin : Fld Z h1218 b1218 own_c_235 "origin" "Ljava/lang/String;" .null := D1218 (Or.inl (own_w hw 328 rfl)) (ty := (.object "java/lang/String")) own_lm_319
    refine own_st (fun u_ k_ => st1218 u_ k_) ?_
    show own_Go p e below _ (T1218.setTop (mkF m 25 #[.val (.int k1), .val (.int k2), .val (.int k3), .val (.int fl), .val (.int ch), .val .null, .unset, .unset, .unset, .unset, .unset, .unset, .unset, .unset, .unset] [(.ref b1218)]))
    refine own_st (fun u_ k_ => XS.dup X1218.here hx rfl (hb hby at_25) rfl rfl k_) ?_
    refine own_st (fun u_ k_ => XS.aload X1218.here hx rfl (hb hby at_26) rfl rfl k_) ?_
    show own_Go p e below _ (T1218.setTop (mkF m 28 #[.val (.int k1), .val (.int k2), .val (.int k3), .val (.int fl), .val (.int ch), .val .null, .unset, .unset, .unset, .unset, .unset, .unset, .unset, .unset, .unset] [.null, (.ref b1218), (.ref b1218)]))
    have g1219 : n0 ≤ b1218 := Nat.le_trans (own_nl O0) (Nat.le_of_eq g1218.symm)
    have O1221 : Old Z n0 h1218 := O0.ext E1218
    obtain ⟨T1220, v1220, L1220, X1220, hQ1220, st1220⟩ := own_callN X1218 hx hZ (y := own_y_558) rfl hown (own_w hw 29 rfl) (own_w hw 30 rfl) (own_w hw 28 rfl) (own_w hw 31 rfl) own_lm_615 (rmBI l Z a0 hw [] w0 w1 w2 w3 wl wle wd mAL mUL mUR mOA wcs kle kd hS b1218 (.null : Value) h1218 n0 O1221 g1219 rfl A1218 F1218_qualifiers F1218_dependsOn F1218_constructorArguments F1218_constructorArgumentsView F1218_propertyValues F1218_propertyValuesView F1218_watchers F1218_className F1218_autowire F1218_value F1218_abstractDefinition F1218_primary F1218_scope F1218_lazyInit F1218_factoryBeanName F1218_factoryMethodName F1218_initMethodName F1218_destroyMethodName F1218_origin) e1218 own_pd_799 (a := b1218) (argsL := [.null]) (rest := [(.ref b1218)]) rfl rfl (g := (mkF m 28 #[.val (.int k1), .val (.int k2), .val (.int k3), .val (.int fl), .val (.int ch), .val .null, .unset, .unset, .unset, .unset, .unset, .unset, .unset, .unset, .unset] [.null, (.ref b1218), (.ref b1218)])) rfl (by rw [hml]; rfl) rfl (hb hby at_28) (W := 1) rfl (by decide) (by decide) (by decide) (by decide)
    obtain ⟨ca_1222, pv_1223, wt_1224, ar_1225, kr_1226, rfl, M1220, K1220, z1227, z1228, z1229, z1230, F1231, F1232, F1233, F1234, F1235, F1236, F1237, F1238, F1239, F1240, F1241, F1242, F1243, F1244, F1245, F1246, F1247, F1248, F1249, F1250, F1251, F1252, F1253, F1254, F1255, F1256, F1257, F1258, F1259, F1260, ne_1261⟩ := hQ1220
    have N1220 := Fr.app N0 M1220
    refine own_st (fun u_ k_ => st1220 u_ k_) ?_
    show own_Go p e below _ (T1220.setTop (mkF m 31 #[.val (.int k1), .val (.int k2), .val (.int k3), .val (.int fl), .val (.int ch), .val .null, .unset, .unset, .unset, .unset, .unset, .unset, .unset, .unset, .unset] [(.ref b1218)]))
    refine own_st (fun u_ k_ => XS.astore X1220.here hx rfl (hb hby at_31) rfl rfl (l' := #[.val (.int k1), .val (.int k2), .val (.int k3), .val (.int fl), .val (.int ch), .val .null, .val (.ref b1218), .unset, .unset, .unset, .unset, .unset, .unset, .unset, .unset]) rfl k_) ?_
    refine own_st (fun u_ k_ => XS.aload X1220.here hx rfl (hb hby at_33) rfl rfl k_) ?_
    show own_Go p e below _ (T1220.setTop (mkF m 35 #[.val (.int k1), .val (.int k2), .val (.int k3), .val (.int fl), .val (.int ch), .val .null, .val (.ref b1218), .unset, .unset, .unset, .unset, .unset, .unset, .unset, .unset] [(.ref b1218)]))
    have O1263 : Old Z n0 T1220.heap := O1221.keep K1220 (allS g1219 all0)
    obtain ⟨T1262, v1262, L1262, X1262, hQ1262, st1262⟩ := own_callV X1220 hx hZ (y := own_y_569) (z := own_y_569) hown (own_w hw 142 rfl) (own_w hw 143 rfl) (notFace_of_selects (args := #[]) (mvT hZ (own_w hw 145 rfl))) (own_w hw 145 rfl) (own_w hw 144 rfl) (own_w hw 28 rfl) (own_w hw 146 rfl) own_lm_615 (rmGW l Z a0 hw [] w0 w1 w2 w3 wl wle wd mAL mUL mUR mOA wcs kle kd hS b1218 (.null : Value) T1220.heap n0 O1263 F1238 rfl) rfl F1231 own_pd_1074 (argsL := []) (rest := []) rfl rfl (g := (mkF m 35 #[.val (.int k1), .val (.int k2), .val (.int k3), .val (.int fl), .val (.int ch), .val .null, .val (.ref b1218), .unset, .unset, .unset, .unset, .unset, .unset, .unset, .unset] [(.ref b1218)])) rfl (by rw [hml]; rfl) rfl (hb hby at_35) (W := 0) rfl (by decide) (by decide) (by decide) (by decide)
    obtain ⟨rfl, M1262, e1262⟩ := hQ1262
    have N1262 := Fr.app N1220 M1262
    refine own_st (fun u_ k_ => st1262 u_ k_) ?_
    show own_Go p e below _ (T1262.setTop (mkF m 38 #[.val (.int k1), .val (.int k2), .val (.int k3), .val (.int fl), .val (.int ch), .val .null, .val (.ref b1218), .unset, .unset, .unset, .unset, .unset, .unset, .unset, .unset] [(own_or (.null : Value) (.ref w0))]))
    have F1264 := Sta.ext O1263.2 hS.1
    obtain ⟨T1265, X1265, e1265, st1265⟩ := getS2 X1262 hx hZ hown (host := "") (Or.inl (own_w hw 152 rfl)) Via.refl e1262 F1264 (g := (mkF m 38 #[.val (.int k1), .val (.int k2), .val (.int k3), .val (.int fl), .val (.int ch), .val .null, .val (.ref b1218), .unset, .unset, .unset, .unset, .unset, .unset, .unset, .unset] [(own_or (.null : Value) (.ref w0))])) rfl (hb hby at_38)
    refine own_st (fun u_ k_ => st1265 u_ k_) ?_
    show own_Go p e below _ (T1265.setTop (mkF m 41 #[.val (.int k1), .val (.int k2), .val (.int k3), .val (.int fl), .val (.int ch), .val .null, .val (.ref b1218), .unset, .unset, .unset, .unset, .unset, .unset, .unset, .unset] [(.ref w0), (own_or (.null : Value) (.ref w0))]))
    refine own_st (fun u_ k_ => XT.acmpNo X1265.here hx rfl (hb hby at_41) rfl (own_orR (w := .ref w0) rfl rfl) rfl (XT.aa_ne_f rfl) k_) ?_
    show own_Go p e below _ (T1265.setTop (mkF m 44 #[.val (.int k1), .val (.int k2), .val (.int k3), .val (.int fl), .val (.int ch), .val .null, .val (.ref b1218), .unset, .unset, .unset, .unset, .unset, .unset, .unset, .unset] []))
    refine own_st (fun u_ k_ => XS.iconst X1265.here hx rfl (hb hby at_44) k_) ?_
    refine own_st (fun u_ k_ => XS.goto X1265.here hx rfl (pc0 := 45) (pc' := 49) rfl (hb hby at_45) (by decide) (by decide) k_) ?_
    show own_Go p e below _ (T1265.setTop (mkF m 49 #[.val (.int k1), .val (.int k2), .val (.int k3), .val (.int fl), .val (.int ch), .val .null, .val (.ref b1218), .unset, .unset, .unset, .unset, .unset, .unset, .unset, .unset] [(.int (1 : Int32))]))
    refine own_st (fun u_ k_ => XS.istore X1265.here hx rfl (hb hby at_49) rfl (l' := #[.val (.int k1), .val (.int k2), .val (.int k3), .val (.int fl), .val (.int ch), .val .null, .val (.ref b1218), .val (.int (1 : Int32)), .unset, .unset, .unset, .unset, .unset, .unset, .unset]) rfl k_) ?_
    refine own_st (fun u_ k_ => XS.iloadN X1265.here hx rfl (hb hby at_51) rfl k_) ?_
    show own_Go p e below _ (T1265.setTop (mkF m 52 #[.val (.int k1), .val (.int k2), .val (.int k3), .val (.int fl), .val (.int ch), .val .null, .val (.ref b1218), .val (.int (1 : Int32)), .unset, .unset, .unset, .unset, .unset, .unset, .unset] [(.int k1)]))
    obtain ⟨T1266, v1266, L1266, X1266, hQ1266, st1266⟩ := own_callS X1265 hx hZ (y := own_y_605) hown (own_w hw 153 rfl) (own_w hw 154 rfl) (own_w hw 155 rfl) (own_w hw 156 rfl) own_lm_1075 (rmMO l Z a0 hw [] w0 w1 w2 w3 wl wle wd mAL mUL mUR mOA wcs kle kd hS k1 T1220.heap n0 O1263 ) e1265 own_pd_1076 (argsL := [(.int k1)]) (rest := []) rfl rfl (g := (mkF m 52 #[.val (.int k1), .val (.int k2), .val (.int k3), .val (.int fl), .val (.int ch), .val .null, .val (.ref b1218), .val (.int (1 : Int32)), .unset, .unset, .unset, .unset, .unset, .unset, .unset] [(.int k1)])) rfl (by rw [hml]; rfl) rfl (hb hby at_52) (W := 0) rfl (by decide) (by decide) (by decide) (by decide)
    obtain ⟨rv_1267, rfl, M1266, e1266, ref_1268, aw_1269⟩ := hQ1266
    have N1266 := Fr.app N1262 M1266
    refine own_st (fun u_ k_ => st1266 u_ k_) ?_
    show own_Go p e below _ (T1266.setTop (mkF m 55 #[.val (.int k1), .val (.int k2), .val (.int k3), .val (.int fl), .val (.int ch), .val .null, .val (.ref b1218), .val (.int (1 : Int32)), .unset, .unset, .unset, .unset, .unset, .unset, .unset] [rv_1267]))
    refine own_st (fun u_ k_ => XS.astoreS X1266.here hx rfl (hb hby at_55) rfl ref_1268 (XT.cat1 ref_1268) rfl (Or.inl rfl) k_) ?_
    refine own_st (fun u_ k_ => XS.iloadN X1266.here hx rfl (hb hby at_57) rfl k_) ?_
    show own_Go p e below _ (T1266.setTop (mkF m 58 #[.val (.int k1), .val (.int k2), .val (.int k3), .val (.int fl), .val (.int ch), .val .null, .val (.ref b1218), .val (.int (1 : Int32)), .val rv_1267, .unset, .unset, .unset, .unset, .unset, .unset] [(.int k2)]))
    obtain ⟨T1270, v1270, L1270, X1270, hQ1270, st1270⟩ := own_callS X1266 hx hZ (y := own_y_605) hown (own_w hw 153 rfl) (own_w hw 154 rfl) (own_w hw 155 rfl) (own_w hw 156 rfl) own_lm_1075 (rmMO l Z a0 hw [] w0 w1 w2 w3 wl wle wd mAL mUL mUR mOA wcs kle kd hS k2 T1220.heap n0 O1263 ) e1266 own_pd_1076 (argsL := [(.int k2)]) (rest := []) rfl rfl (g := (mkF m 58 #[.val (.int k1), .val (.int k2), .val (.int k3), .val (.int fl), .val (.int ch), .val .null, .val (.ref b1218), .val (.int (1 : Int32)), .val rv_1267, .unset, .unset, .unset, .unset, .unset, .unset] [(.int k2)])) rfl (by rw [hml]; rfl) rfl (hb hby at_58) (W := 0) rfl (by decide) (by decide) (by decide) (by decide)
    obtain ⟨rv_1271, rfl, M1270, e1270, ref_1272, aw_1273⟩ := hQ1270
    have N1270 := Fr.app N1266 M1270
    refine own_st (fun u_ k_ => st1270 u_ k_) ?_
    show own_Go p e below _ (T1270.setTop (mkF m 61 #[.val (.int k1), .val (.int k2), .val (.int k3), .val (.int fl), .val (.int ch), .val .null, .val (.ref b1218), .val (.int (1 : Int32)), .val rv_1267, .unset, .unset, .unset, .unset, .unset, .unset] [rv_1271]))
    refine own_st (fun u_ k_ => XS.astoreS X1270.here hx rfl (hb hby at_61) rfl ref_1272 (XT.cat1 ref_1272) rfl (Or.inl rfl) k_) ?_
    refine own_st (fun u_ k_ => XS.iloadN X1270.here hx rfl (hb hby at_63) rfl k_) ?_
    show own_Go p e below _ (T1270.setTop (mkF m 64 #[.val (.int k1), .val (.int k2), .val (.int k3), .val (.int fl), .val (.int ch), .val .null, .val (.ref b1218), .val (.int (1 : Int32)), .val rv_1267, .val rv_1271, .unset, .unset, .unset, .unset, .unset] [(.int k3)]))
    obtain ⟨T1274, v1274, L1274, X1274, hQ1274, st1274⟩ := own_callS X1270 hx hZ (y := own_y_605) hown (own_w hw 153 rfl) (own_w hw 154 rfl) (own_w hw 155 rfl) (own_w hw 156 rfl) own_lm_1075 (rmMO l Z a0 hw [] w0 w1 w2 w3 wl wle wd mAL mUL mUR mOA wcs kle kd hS k3 T1220.heap n0 O1263 ) e1270 own_pd_1076 (argsL := [(.int k3)]) (rest := []) rfl rfl (g := (mkF m 64 #[.val (.int k1), .val (.int k2), .val (.int k3), .val (.int fl), .val (.int ch), .val .null, .val (.ref b1218), .val (.int (1 : Int32)), .val rv_1267, .val rv_1271, .unset, .unset, .unset, .unset, .unset] [(.int k3)])) rfl (by rw [hml]; rfl) rfl (hb hby at_64) (W := 0) rfl (by decide) (by decide) (by decide) (by decide)
    obtain ⟨rv_1275, rfl, M1274, e1274, ref_1276, aw_1277⟩ := hQ1274
    have N1274 := Fr.app N1270 M1274
    refine own_st (fun u_ k_ => st1274 u_ k_) ?_
    show own_Go p e below _ (T1274.setTop (mkF m 67 #[.val (.int k1), .val (.int k2), .val (.int k3), .val (.int fl), .val (.int ch), .val .null, .val (.ref b1218), .val (.int (1 : Int32)), .val rv_1267, .val rv_1271, .unset, .unset, .unset, .unset, .unset] [rv_1275]))
    refine own_st (fun u_ k_ => XS.astoreS X1274.here hx rfl (hb hby at_67) rfl ref_1276 (XT.cat1 ref_1276) rfl (Or.inl rfl) k_) ?_
    refine own_st (fun u_ k_ => XS.aload X1274.here hx rfl (hb hby at_69) rfl rfl k_) ?_
    show own_Go p e below _ (T1274.setTop (mkF m 71 #[.val (.int k1), .val (.int k2), .val (.int k3), .val (.int fl), .val (.int ch), .val .null, .val (.ref b1218), .val (.int (1 : Int32)), .val rv_1267, .val rv_1271, .val rv_1275, .unset, .unset, .unset, .unset] [(.ref b1218)]))
    refine own_st (fun u_ k_ => XS.aload X1274.here hx rfl (hb hby at_71) rfl ref_1268 k_) ?_
    obtain ⟨T1278, v1278, L1278, X1278, hQ1278, st1278⟩ := own_callV X1274 hx hZ (y := own_y_647) (z := own_y_647) hown (own_w hw 162 rfl) (own_w hw 163 rfl) (notFace_of_selects (args := #[]) (mvT hZ (own_w hw 165 rfl))) (own_w hw 165 rfl) (own_w hw 164 rfl) (own_w hw 28 rfl) (own_w hw 166 rfl) own_lm_615 (rmSW l Z a0 hw [] w0 w1 w2 w3 wl wle wd mAL mUL mUR mOA wcs kle kd hS b1218 rv_1267 (.null : Value) ca_1222 pv_1223 wt_1224 ar_1225 kr_1226 (.null : Value) T1220.heap n0 O1263 g1219 ref_1268 F1231 F1232 F1233 F1234 F1235 F1236 F1237 F1238 F1239 F1240 F1241 F1242 F1243 F1244 F1245 F1246 F1247 F1248 F1257 F1258 F1259 F1260 rfl) e1274 F1231 own_pd_1077 (argsL := [rv_1267]) (rest := []) rfl rfl (g := (mkF m 73 #[.val (.int k1), .val (.int k2), .val (.int k3), .val (.int fl), .val (.int ch), .val .null, .val (.ref b1218), .val (.int (1 : Int32)), .val rv_1267, .val rv_1271, .val rv_1275, .unset, .unset, .unset, .unset] [rv_1267, (.ref b1218)])) rfl (by rw [hml]; rfl) rfl (hb hby at_73) (W := 0) rfl (by decide) (by decide) (by decide) (by decide)
    obtain ⟨rfl, M1278, K1278, F1279, F1280, F1281, F1282, F1283, F1284, F1285, F1286, F1287, F1288, F1289, F1290, F1291, F1292, F1293, F1294, F1295, F1296⟩ := hQ1278
    have N1278 := Fr.app N1274 M1278
    refine own_st (fun u_ k_ => st1278 u_ k_) ?_
    show own_Go p e below _ (T1278.setTop (mkF m 76 #[.val (.int k1), .val (.int k2), .val (.int k3), .val (.int fl), .val (.int ch), .val .null, .val (.ref b1218), .val (.int (1 : Int32)), .val rv_1267, .val rv_1271, .val rv_1275, .unset, .unset, .unset, .unset] []))
    refine own_st (fun u_ k_ => XS.iload X1278.here hx rfl (hb hby at_76) rfl k_) ?_
    refine own_st (fun u_ k_ => XS.ifNo X1278.here hx rfl (hb hby at_78) rfl (XT.i0_eq_f (by decide)) k_) ?_
    show own_Go p e below _ (T1278.setTop (mkF m 81 #[.val (.int k1), .val (.int k2), .val (.int k3), .val (.int fl), .val (.int ch), .val .null, .val (.ref b1218), .val (.int (1 : Int32)), .val rv_1267, .val rv_1271, .val rv_1275, .unset, .unset, .unset, .unset] []))
    refine own_st (fun u_ k_ => XS.aload X1278.here hx rfl (hb hby at_81) rfl rfl k_) ?_
    have O1298 : Old Z n0 T1278.heap := O1263.keep K1278 (allS g1219 all0)
    obtain ⟨T1297, v1297, L1297, X1297, hQ1297, st1297⟩ := own_callV X1278 hx hZ (y := own_y_569) (z := own_y_569) hown (own_w hw 142 rfl) (own_w hw 143 rfl) (notFace_of_selects (args := #[]) (mvT hZ (own_w hw 145 rfl))) (own_w hw 145 rfl) (own_w hw 144 rfl) (own_w hw 28 rfl) (own_w hw 146 rfl) own_lm_615 (rmGW l Z a0 hw [] w0 w1 w2 w3 wl wle wd mAL mUL mUR mOA wcs kle kd hS b1218 rv_1267 T1278.heap n0 O1298 F1286 ref_1268) rfl F1279 own_pd_1074 (argsL := []) (rest := []) rfl rfl (g := (mkF m 83 #[.val (.int k1), .val (.int k2), .val (.int k3), .val (.int fl), .val (.int ch), .val .null, .val (.ref b1218), .val (.int (1 : Int32)), .val rv_1267, .val rv_1271, .val rv_1275, .unset, .unset, .unset, .unset] [(.ref b1218)])) rfl (by rw [hml]; rfl) rfl (hb hby at_83) (W := 0) rfl (by decide) (by decide) (by decide) (by decide)
    obtain ⟨rfl, M1297, e1297⟩ := hQ1297
    have N1297 := Fr.app N1278 M1297
    refine own_st (fun u_ k_ => st1297 u_ k_) ?_
    show own_Go p e below _ (T1297.setTop (mkF m 86 #[.val (.int k1), .val (.int k2), .val (.int k3), .val (.int fl), .val (.int ch), .val .null, .val (.ref b1218), .val (.int (1 : Int32)), .val rv_1267, .val rv_1271, .val rv_1275, .unset, .unset, .unset, .unset] [(own_or rv_1267 (.ref w0))]))
    refine own_st (fun u_ k_ => XS.aload X1297.here hx rfl (hb hby at_86) rfl ref_1268 k_) ?_
    obtain ⟨T1299, v1299, L1299, X1299, hQ1299, st1299⟩ := own_callS X1297 hx hZ (y := own_y_576) hown (own_w hw 206 rfl) (own_w hw 207 rfl) (own_w hw 155 rfl) (own_w hw 208 rfl) own_lm_1075 (rmON l Z a0 hw [] w0 w1 w2 w3 wl wle wd mAL mUL mUR mOA wcs kle kd hS rv_1267 T1278.heap n0 O1298 ref_1268) e1297 own_pd_1078 (argsL := [rv_1267]) (rest := [(own_or rv_1267 (.ref w0))]) rfl rfl (g := (mkF m 88 #[.val (.int k1), .val (.int k2), .val (.int k3), .val (.int fl), .val (.int ch), .val .null, .val (.ref b1218), .val (.int (1 : Int32)), .val rv_1267, .val rv_1271, .val rv_1275, .unset, .unset, .unset, .unset] [rv_1267, (own_or rv_1267 (.ref w0))])) rfl (by rw [hml]; rfl) rfl (hb hby at_88) (W := 1) (by show 2 * 0 + _ = _; simp only [List.map, List.sum_cons, List.sum_nil, XT.cat1 (own_orR (w := .ref w0) ref_1268 rfl)]; rfl) (by decide) (by decide) (by decide) (by decide)
    obtain ⟨rfl, M1299, e1299⟩ := hQ1299
    have N1299 := Fr.app N1297 M1299
    refine own_st (fun u_ k_ => st1299 u_ k_) ?_
    show own_Go p e below _ (T1299.setTop (mkF m 91 #[.val (.int k1), .val (.int k2), .val (.int k3), .val (.int fl), .val (.int ch), .val .null, .val (.ref b1218), .val (.int (1 : Int32)), .val rv_1267, .val rv_1271, .val rv_1275, .unset, .unset, .unset, .unset] [(own_or rv_1267 (.ref w0)), (own_or rv_1267 (.ref w0))]))
    refine own_st (fun u_ k_ => XT.acmpNo X1299.here hx rfl (hb hby at_91) rfl (own_orR (w := .ref w0) ref_1268 rfl) (own_orR (w := .ref w0) ref_1268 rfl) (XT.aa_ne_f rfl) k_) ?_
    show own_Go p e below _ (T1299.setTop (mkF m 94 #[.val (.int k1), .val (.int k2), .val (.int k3), .val (.int fl), .val (.int ch), .val .null, .val (.ref b1218), .val (.int (1 : Int32)), .val rv_1267, .val rv_1271, .val rv_1275, .unset, .unset, .unset, .unset] []))
    refine own_st (fun u_ k_ => XS.iconst X1299.here hx rfl (hb hby at_94) k_) ?_
    refine own_st (fun u_ k_ => XS.goto X1299.here hx rfl (pc0 := 95) (pc' := 99) rfl (hb hby at_95) (by decide) (by decide) k_) ?_
    show own_Go p e below _ (T1299.setTop (mkF m 99 #[.val (.int k1), .val (.int k2), .val (.int k3), .val (.int fl), .val (.int ch), .val .null, .val (.ref b1218), .val (.int (1 : Int32)), .val rv_1267, .val rv_1271, .val rv_1275, .unset, .unset, .unset, .unset] [(.int (1 : Int32))]))
    refine own_st (fun u_ k_ => XS.istore X1299.here hx rfl (hb hby at_99) rfl (l' := #[.val (.int k1), .val (.int k2), .val (.int k3), .val (.int fl), .val (.int ch), .val .null, .val (.ref b1218), .val (.int (1 : Int32)), .val rv_1267, .val rv_1271, .val rv_1275, .unset, .unset, .unset, .unset]) rfl k_) ?_
    refine own_st (fun u_ k_ => XS.aload X1299.here hx rfl (hb hby at_101) rfl ref_1268 k_) ?_
    show own_Go p e below _ (T1299.setTop (mkF m 103 #[.val (.int k1), .val (.int k2), .val (.int k3), .val (.int fl), .val (.int ch), .val .null, .val (.ref b1218), .val (.int (1 : Int32)), .val rv_1267, .val rv_1271, .val rv_1275, .unset, .unset, .unset, .unset] [rv_1267]))
    refine own_st (fun u_ k_ => XS.astoreS X1299.here hx rfl (hb hby at_103) rfl ref_1268 (XT.cat1 ref_1268) rfl (Or.inl rfl) k_) ?_
    refine own_st (fun u_ k_ => XS.iloadN X1299.here hx rfl (hb hby at_105) rfl k_) ?_
    show own_Go p e below _ (T1299.setTop (mkF m 106 #[.val (.int k1), .val (.int k2), .val (.int k3), .val (.int fl), .val (.int ch), .val .null, .val (.ref b1218), .val (.int (1 : Int32)), .val rv_1267, .val rv_1271, .val rv_1275, .val rv_1267, .unset, .unset, .unset] [(.int fl)]))
    refine own_st (fun u_ k_ => XS.iconst X1299.here hx rfl (hb hby at_106) k_) ?_
    refine own_st (fun u_ k_ => XS.iand X1299.here hx rfl (hb hby at_107) rfl k_) ?_
    show own_Go p e below _ (T1299.setTop (mkF m 108 #[.val (.int k1), .val (.int k2), .val (.int k3), .val (.int fl), .val (.int ch), .val .null, .val (.ref b1218), .val (.int (1 : Int32)), .val rv_1267, .val rv_1271, .val rv_1275, .val rv_1267, .unset, .unset, .unset] [(.int (fl &&& (2 : Int32)))]))
    by_cases hc1300 : (fl &&& (2 : Int32)) = (0 : Int32)
    · refine own_st (fun u_ k_ => XS.ifYes X1299.here hx rfl (pc0 := 108) (pc' := 122) rfl (hb hby at_108) rfl (XT.i0_eq_t hc1300) (by decide) (by decide) k_) ?_
      refine own_st (fun u_ k_ => XS.iload X1299.here hx rfl (hb hby at_122) rfl k_) ?_
      show own_Go p e below _ (T1299.setTop (mkF m 124 #[.val (.int k1), .val (.int k2), .val (.int k3), .val (.int fl), .val (.int ch), .val .null, .val (.ref b1218), .val (.int (1 : Int32)), .val rv_1267, .val rv_1271, .val rv_1275, .val rv_1267, .unset, .unset, .unset] [(.int (1 : Int32))]))
      refine own_st (fun u_ k_ => XS.ifNo X1299.here hx rfl (hb hby at_124) rfl (XT.i0_eq_f (by decide)) k_) ?_
      refine own_st (fun u_ k_ => XS.aload X1299.here hx rfl (hb hby at_127) rfl rfl k_) ?_
      show own_Go p e below _ (T1299.setTop (mkF m 129 #[.val (.int k1), .val (.int k2), .val (.int k3), .val (.int fl), .val (.int ch), .val .null, .val (.ref b1218), .val (.int (1 : Int32)), .val rv_1267, .val rv_1271, .val rv_1275, .val rv_1267, .unset, .unset, .unset] [(.ref b1218)]))
      obtain ⟨T1301, v1301, L1301, X1301, hQ1301, st1301⟩ := own_callV X1299 hx hZ (y := own_y_569) (z := own_y_569) hown (own_w hw 142 rfl) (own_w hw 143 rfl) (notFace_of_selects (args := #[]) (mvT hZ (own_w hw 145 rfl))) (own_w hw 145 rfl) (own_w hw 144 rfl) (own_w hw 28 rfl) (own_w hw 146 rfl) own_lm_615 (rmGW l Z a0 hw [] w0 w1 w2 w3 wl wle wd mAL mUL mUR mOA wcs kle kd hS b1218 rv_1267 T1278.heap n0 O1298 F1286 ref_1268) e1299 F1279 own_pd_1074 (argsL := []) (rest := []) rfl rfl (g := (mkF m 129 #[.val (.int k1), .val (.int k2), .val (.int k3), .val (.int fl), .val (.int ch), .val .null, .val (.ref b1218), .val (.int (1 : Int32)), .val rv_1267, .val rv_1271, .val rv_1275, .val rv_1267, .unset, .unset, .unset] [(.ref b1218)])) rfl (by rw [hml]; rfl) rfl (hb hby at_129) (W := 0) rfl (by decide) (by decide) (by decide) (by decide)
      obtain ⟨rfl, M1301, e1301⟩ := hQ1301
      have N1301 := Fr.app N1299 M1301
      refine own_st (fun u_ k_ => st1301 u_ k_) ?_
      show own_Go p e below _ (T1301.setTop (mkF m 132 #[.val (.int k1), .val (.int k2), .val (.int k3), .val (.int fl), .val (.int ch), .val .null, .val (.ref b1218), .val (.int (1 : Int32)), .val rv_1267, .val rv_1271, .val rv_1275, .val rv_1267, .unset, .unset, .unset] [(own_or rv_1267 (.ref w0))]))
      refine own_st (fun u_ k_ => XS.aload X1301.here hx rfl (hb hby at_132) rfl ref_1268 k_) ?_
      obtain ⟨T1302, v1302, L1302, X1302, hQ1302, st1302⟩ := own_callS X1301 hx hZ (y := own_y_576) hown (own_w hw 206 rfl) (own_w hw 207 rfl) (own_w hw 155 rfl) (own_w hw 208 rfl) own_lm_1075 (rmON l Z a0 hw [] w0 w1 w2 w3 wl wle wd mAL mUL mUR mOA wcs kle kd hS rv_1267 T1278.heap n0 O1298 ref_1268) e1301 own_pd_1078 (argsL := [rv_1267]) (rest := [(own_or rv_1267 (.ref w0))]) rfl rfl (g := (mkF m 134 #[.val (.int k1), .val (.int k2), .val (.int k3), .val (.int fl), .val (.int ch), .val .null, .val (.ref b1218), .val (.int (1 : Int32)), .val rv_1267, .val rv_1271, .val rv_1275, .val rv_1267, .unset, .unset, .unset] [rv_1267, (own_or rv_1267 (.ref w0))])) rfl (by rw [hml]; rfl) rfl (hb hby at_134) (W := 1) (by show 2 * 0 + _ = _; simp only [List.map, List.sum_cons, List.sum_nil, XT.cat1 (own_orR (w := .ref w0) ref_1268 rfl)]; rfl) (by decide) (by decide) (by decide) (by decide)
      obtain ⟨rfl, M1302, e1302⟩ := hQ1302
      have N1302 := Fr.app N1301 M1302
      refine own_st (fun u_ k_ => st1302 u_ k_) ?_
      show own_Go p e below _ (T1302.setTop (mkF m 137 #[.val (.int k1), .val (.int k2), .val (.int k3), .val (.int fl), .val (.int ch), .val .null, .val (.ref b1218), .val (.int (1 : Int32)), .val rv_1267, .val rv_1271, .val rv_1275, .val rv_1267, .unset, .unset, .unset] [(own_or rv_1267 (.ref w0)), (own_or rv_1267 (.ref w0))]))
      refine own_st (fun u_ k_ => XT.acmpNo X1302.here hx rfl (hb hby at_137) rfl (own_orR (w := .ref w0) ref_1268 rfl) (own_orR (w := .ref w0) ref_1268 rfl) (XT.aa_ne_f rfl) k_) ?_
      show own_Go p e below _ (T1302.setTop (mkF m 140 #[.val (.int k1), .val (.int k2), .val (.int k3), .val (.int fl), .val (.int ch), .val .null, .val (.ref b1218), .val (.int (1 : Int32)), .val rv_1267, .val rv_1271, .val rv_1275, .val rv_1267, .unset, .unset, .unset] []))
      refine own_st (fun u_ k_ => XS.iconst X1302.here hx rfl (hb hby at_140) k_) ?_
      refine own_st (fun u_ k_ => XS.goto X1302.here hx rfl (pc0 := 141) (pc' := 145) rfl (hb hby at_141) (by decide) (by decide) k_) ?_
      show own_Go p e below _ (T1302.setTop (mkF m 145 #[.val (.int k1), .val (.int k2), .val (.int k3), .val (.int fl), .val (.int ch), .val .null, .val (.ref b1218), .val (.int (1 : Int32)), .val rv_1267, .val rv_1271, .val rv_1275, .val rv_1267, .unset, .unset, .unset] [(.int (1 : Int32))]))
      refine own_st (fun u_ k_ => XS.istore X1302.here hx rfl (hb hby at_145) rfl (l' := #[.val (.int k1), .val (.int k2), .val (.int k3), .val (.int fl), .val (.int ch), .val .null, .val (.ref b1218), .val (.int (1 : Int32)), .val rv_1267, .val rv_1271, .val rv_1275, .val rv_1267, .unset, .unset, .unset]) rfl k_) ?_
      obtain ⟨T1303, h1303, X1303, e1303, E1303, A1303, D1303, U1303, st1303⟩ := newO X1302 hx hZ hown (own_w hw 26 rfl) (own_w hw 27 rfl) (own_w hw 28 rfl) e1302 (g := (mkF m 147 #[.val (.int k1), .val (.int k2), .val (.int k3), .val (.int fl), .val (.int ch), .val .null, .val (.ref b1218), .val (.int (1 : Int32)), .val rv_1267, .val rv_1271, .val rv_1275, .val rv_1267, .unset, .unset, .unset] [])) rfl (hb hby at_147) (by decide) (by decide)
      obtain ⟨b1303, g1303⟩ : ∃ z, z = T1278.heap.size := ⟨_, rfl⟩
      rw [← g1303] at A1303 D1303 U1303 st1303
      have F1303_qualifiers : Fld Z h1303 b1303 own_c_235 "qualifiers" "Ljava/util/List;" .null := D1303 (Or.inl (own_w hw 40 rfl)) (ty := (.object "java/util/List")) own_lm_104
      have F1303_dependsOn : Fld Z h1303 b1303 own_c_235 "dependsOn" "Ljava/util/List;" .null := D1303 (Or.inl (own_w hw 42 rfl)) (ty := (.object "java/util/List")) own_lm_104
      have F1303_constructorArguments : Fld Z h1303 b1303 own_c_235 "constructorArguments" "Ljava/util/List;" .null := D1303 (Or.inr (own_w hw 68 rfl)) (ty := (.object "java/util/List")) own_lm_104
      have F1303_constructorArgumentsView : Fld Z h1303 b1303 own_c_235 "constructorArgumentsView" "Ljava/util/List;" .null := D1303 (Or.inr (own_w hw 113 rfl)) (ty := (.object "java/util/List")) own_lm_104
      have F1303_propertyValues : Fld Z h1303 b1303 own_c_235 "propertyValues" "Ljava/util/List;" .null := D1303 (Or.inr (own_w hw 115 rfl)) (ty := (.object "java/util/List")) own_lm_104
      have F1303_propertyValuesView : Fld Z h1303 b1303 own_c_235 "propertyValuesView" "Ljava/util/List;" .null := D1303 (Or.inr (own_w hw 117 rfl)) (ty := (.object "java/util/List")) own_lm_104
      have F1303_watchers : Fld Z h1303 b1303 own_c_235 "watchers" "Ljava/util/List;" .null := D1303 (Or.inr (own_w hw 139 rfl)) (ty := (.object "java/util/List")) own_lm_104
      have F1303_className : Fld Z h1303 b1303 own_c_235 "className" "Ljava/lang/String;" .null := D1303 (Or.inl (own_w hw 141 rfl)) (ty := (.object "java/lang/String")) own_lm_319
      have F1303_autowire : Fld Z h1303 b1303 own_c_235 "autowire" own_c_559 .null := D1303 (Or.inl (own_w hw 148 rfl)) (ty := (.object "com/example/temanggung/temanggung/beans/factory/Autowire")) own_lm_379
      have F1303_value : Fld Z h1303 b1303 own_c_235 "value" own_c_560 .null := D1303 (Or.inl (own_w hw 221 rfl)) (ty := (.object "com/example/temanggung/temanggung/beans/factory/DefinedValue")) own_lm_396
      have F1303_abstractDefinition : Fld Z h1303 b1303 own_c_235 "abstractDefinition" "Z" (.int (0 : Int32)) := D1303 (Or.inl (own_w hw 223 rfl)) (ty := .boolean) own_lm_413
      have F1303_primary : Fld Z h1303 b1303 own_c_235 "primary" "Z" (.int (0 : Int32)) := D1303 (Or.inl (own_w hw 225 rfl)) (ty := .boolean) own_lm_413
      have F1303_scope : Fld Z h1303 b1303 own_c_235 "scope" "Ljava/lang/String;" .null := D1303 (Or.inl (own_w hw 227 rfl)) (ty := (.object "java/lang/String")) own_lm_319
      have F1303_lazyInit : Fld Z h1303 b1303 own_c_235 "lazyInit" "Ljava/lang/Boolean;" .null := D1303 (Or.inl (own_w hw 229 rfl)) (ty := (.object "java/lang/Boolean")) own_lm_462
      have F1303_factoryBeanName : Fld Z h1303 b1303 own_c_235 "factoryBeanName" "Ljava/lang/String;" .null := D1303 (Or.inl (own_w hw 233 rfl)) (ty := (.object "java/lang/String")) own_lm_319
      have F1303_factoryMethodName : Fld Z h1303 b1303 own_c_235 "factoryMethodName" "Ljava/lang/String;" .null := D1303 (Or.inl (own_w hw 235 rfl)) (ty := (.object "java/lang/String")) own_lm_319
      have F1303_initMethodName : Fld Z h1303 b1303 own_c_235 "initMethodName" "Ljava/lang/String;" .null := D1303 (Or.inl (own_w hw 324 rfl)) (ty := (.object "java/lang/String")) own_lm_319
      have F1303_destroyMethodName : Fld Z h1303 b1303 own_c_235 "destroyMethodName" "Ljava/lang/String;" .null := D1303 (Or.inl (own_w hw 326 rfl)) (ty := (.object "java/lang/String")) own_lm_319
      have F1303_origin : Fld Z h1303 b1303 own_c_235 "origin" "Ljava/lang/String;" .null := D1303 (Or.inl (own_w hw 328 rfl)) (ty := (.object "java/lang/String")) own_lm_319
      refine own_st (fun u_ k_ => st1303 u_ k_) ?_
      show own_Go p e below _ (T1303.setTop (mkF m 150 #[.val (.int k1), .val (.int k2), .val (.int k3), .val (.int fl), .val (.int ch), .val .null, .val (.ref b1218), .val (.int (1 : Int32)), .val rv_1267, .val rv_1271, .val rv_1275, .val rv_1267, .unset, .unset, .unset] [(.ref b1303)]))
      refine own_st (fun u_ k_ => XS.dup X1303.here hx rfl (hb hby at_150) rfl rfl k_) ?_
      refine own_st (fun u_ k_ => XS.aconstNull X1303.here hx rfl (hb hby at_151) k_) ?_
      show own_Go p e below _ (T1303.setTop (mkF m 152 #[.val (.int k1), .val (.int k2), .val (.int k3), .val (.int fl), .val (.int ch), .val .null, .val (.ref b1218), .val (.int (1 : Int32)), .val rv_1267, .val rv_1271, .val rv_1275, .val rv_1267, .unset, .unset, .unset] [.null, (.ref b1303), (.ref b1303)]))
      have g1304 : n0 ≤ b1303 := Nat.le_trans (own_nl O1298) (Nat.le_of_eq g1303.symm)
      have O1306 : Old Z n0 h1303 := O1298.ext E1303
      obtain ⟨T1305, v1305, L1305, X1305, hQ1305, st1305⟩ := own_callN X1303 hx hZ (y := own_y_558) rfl hown (own_w hw 29 rfl) (own_w hw 30 rfl) (own_w hw 28 rfl) (own_w hw 31 rfl) own_lm_615 (rmBI l Z a0 hw [] w0 w1 w2 w3 wl wle wd mAL mUL mUR mOA wcs kle kd hS b1303 (.null : Value) h1303 n0 O1306 g1304 rfl A1303 F1303_qualifiers F1303_dependsOn F1303_constructorArguments F1303_constructorArgumentsView F1303_propertyValues F1303_propertyValuesView F1303_watchers F1303_className F1303_autowire F1303_value F1303_abstractDefinition F1303_primary F1303_scope F1303_lazyInit F1303_factoryBeanName F1303_factoryMethodName F1303_initMethodName F1303_destroyMethodName F1303_origin) e1303 own_pd_799 (a := b1303) (argsL := [.null]) (rest := [(.ref b1303)]) rfl rfl (g := (mkF m 152 #[.val (.int k1), .val (.int k2), .val (.int k3), .val (.int fl), .val (.int ch), .val .null, .val (.ref b1218), .val (.int (1 : Int32)), .val rv_1267, .val rv_1271, .val rv_1275, .val rv_1267, .unset, .unset, .unset] [.null, (.ref b1303), (.ref b1303)])) rfl (by rw [hml]; rfl) rfl (hb hby at_152) (W := 1) rfl (by decide) (by decide) (by decide) (by decide)
      obtain ⟨ca_1307, pv_1308, wt_1309, ar_1310, kr_1311, rfl, M1305, K1305, z1312, z1313, z1314, z1315, F1316, F1317, F1318, F1319, F1320, F1321, F1322, F1323, F1324, F1325, F1326, F1327, F1328, F1329, F1330, F1331, F1332, F1333, F1334, F1335, F1336, F1337, F1338, F1339, F1340, F1341, F1342, F1343, F1344, F1345, ne_1346⟩ := hQ1305
      have N1305 := Fr.app N1302 M1305
      refine own_st (fun u_ k_ => st1305 u_ k_) ?_
      show own_Go p e below _ (T1305.setTop (mkF m 155 #[.val (.int k1), .val (.int k2), .val (.int k3), .val (.int fl), .val (.int ch), .val .null, .val (.ref b1218), .val (.int (1 : Int32)), .val rv_1267, .val rv_1271, .val rv_1275, .val rv_1267, .unset, .unset, .unset] [(.ref b1303)]))
      refine own_st (fun u_ k_ => XS.astore X1305.here hx rfl (hb hby at_155) rfl rfl (l' := #[.val (.int k1), .val (.int k2), .val (.int k3), .val (.int fl), .val (.int ch), .val .null, .val (.ref b1218), .val (.int (1 : Int32)), .val rv_1267, .val rv_1271, .val rv_1275, .val rv_1267, .val (.ref b1303), .unset, .unset]) rfl k_) ?_
      refine own_st (fun u_ k_ => XS.aload X1305.here hx rfl (hb hby at_157) rfl rfl k_) ?_
      show own_Go p e below _ (T1305.setTop (mkF m 159 #[.val (.int k1), .val (.int k2), .val (.int k3), .val (.int fl), .val (.int ch), .val .null, .val (.ref b1218), .val (.int (1 : Int32)), .val rv_1267, .val rv_1271, .val rv_1275, .val rv_1267, .val (.ref b1303), .unset, .unset] [(.ref b1303)]))
      refine own_st (fun u_ k_ => XS.aload X1305.here hx rfl (hb hby at_159) rfl ref_1276 k_) ?_
      have O1348 : Old Z n0 T1305.heap := O1306.keep K1305 (allS g1304 all0)
      obtain ⟨T1347, v1347, L1347, X1347, hQ1347, st1347⟩ := own_callV X1305 hx hZ (y := own_y_647) (z := own_y_647) hown (own_w hw 162 rfl) (own_w hw 163 rfl) (notFace_of_selects (args := #[]) (mvT hZ (own_w hw 165 rfl))) (own_w hw 165 rfl) (own_w hw 164 rfl) (own_w hw 28 rfl) (own_w hw 166 rfl) own_lm_615 (rmSW l Z a0 hw [] w0 w1 w2 w3 wl wle wd mAL mUL mUR mOA wcs kle kd hS b1303 rv_1275 (.null : Value) ca_1307 pv_1308 wt_1309 ar_1310 kr_1311 (.null : Value) T1305.heap n0 O1348 g1304 ref_1276 F1316 F1317 F1318 F1319 F1320 F1321 F1322 F1323 F1324 F1325 F1326 F1327 F1328 F1329 F1330 F1331 F1332 F1333 F1342 F1343 F1344 F1345 rfl) rfl F1316 own_pd_1077 (argsL := [rv_1275]) (rest := []) rfl rfl (g := (mkF m 161 #[.val (.int k1), .val (.int k2), .val (.int k3), .val (.int fl), .val (.int ch), .val .null, .val (.ref b1218), .val (.int (1 : Int32)), .val rv_1267, .val rv_1271, .val rv_1275, .val rv_1267, .val (.ref b1303), .unset, .unset] [rv_1275, (.ref b1303)])) rfl (by rw [hml]; rfl) rfl (hb hby at_161) (W := 0) rfl (by decide) (by decide) (by decide) (by decide)
      obtain ⟨rfl, M1347, K1347, F1349, F1350, F1351, F1352, F1353, F1354, F1355, F1356, F1357, F1358, F1359, F1360, F1361, F1362, F1363, F1364, F1365, F1366⟩ := hQ1347
      have N1347 := Fr.app N1305 M1347
      refine own_st (fun u_ k_ => st1347 u_ k_) ?_
      show own_Go p e below _ (T1347.setTop (mkF m 164 #[.val (.int k1), .val (.int k2), .val (.int k3), .val (.int fl), .val (.int ch), .val .null, .val (.ref b1218), .val (.int (1 : Int32)), .val rv_1267, .val rv_1271, .val rv_1275, .val rv_1267, .val (.ref b1303), .unset, .unset] []))
      refine own_st (fun u_ k_ => XS.aload X1347.here hx rfl (hb hby at_164) rfl rfl k_) ?_
      refine own_st (fun u_ k_ => XS.aload X1347.here hx rfl (hb hby at_166) rfl rfl k_) ?_
      show own_Go p e below _ (T1347.setTop (mkF m 168 #[.val (.int k1), .val (.int k2), .val (.int k3), .val (.int fl), .val (.int ch), .val .null, .val (.ref b1218), .val (.int (1 : Int32)), .val rv_1267, .val rv_1271, .val rv_1275, .val rv_1267, .val (.ref b1303), .unset, .unset] [(.ref b1303), (.ref b1218)]))
      have F1367 := (((Exa.ext E1303 F1279).keep K1305).keep K1347)
      have ne1368 : b1218 ≠ b1303 := (Nat.ne_of_lt (Nat.lt_of_lt_of_le F1279.lt (Nat.le_of_eq g1303.symm)))
      have F1369 := (((Fld.ext E1303 F1280).keep K1305 (ninS ne1368 nin0)).keep K1347 (ninS ne1368 nin0))
      have F1370 := (((Fld.ext E1303 F1281).keep K1305 (ninS ne1368 nin0)).keep K1347 (ninS ne1368 nin0))
      have F1371 := (((Fld.ext E1303 F1282).keep K1305 (ninS ne1368 nin0)).keep K1347 (ninS ne1368 nin0))
      have F1372 := (((Fld.ext E1303 F1283).keep K1305 (ninS ne1368 nin0)).keep K1347 (ninS ne1368 nin0))
      have F1373 := (((Fld.ext E1303 F1284).keep K1305 (ninS ne1368 nin0)).keep K1347 (ninS ne1368 nin0))
      have F1374 := (((Fld.ext E1303 F1285).keep K1305 (ninS ne1368 nin0)).keep K1347 (ninS ne1368 nin0))
      have F1375 := (((Fld.ext E1303 F1286).keep K1305 (ninS ne1368 nin0)).keep K1347 (ninS ne1368 nin0))
      have F1376 := (((Fld.ext E1303 F1287).keep K1305 (ninS ne1368 nin0)).keep K1347 (ninS ne1368 nin0))
      have F1377 := (((Fld.ext E1303 F1288).keep K1305 (ninS ne1368 nin0)).keep K1347 (ninS ne1368 nin0))
      have F1378 := (((Fld.ext E1303 F1289).keep K1305 (ninS ne1368 nin0)).keep K1347 (ninS ne1368 nin0))
      have F1379 := (((Fld.ext E1303 F1290).keep K1305 (ninS ne1368 nin0)).keep K1347 (ninS ne1368 nin0))
      have F1380 := (((Fld.ext E1303 F1291).keep K1305 (ninS ne1368 nin0)).keep K1347 (ninS ne1368 nin0))
      have F1381 := (((Fld.ext E1303 F1292).keep K1305 (ninS ne1368 nin0)).keep K1347 (ninS ne1368 nin0))
      have F1382 := (((Fld.ext E1303 F1293).keep K1305 (ninS ne1368 nin0)).keep K1347 (ninS ne1368 nin0))
      have F1383 := (((Fld.ext E1303 F1294).keep K1305 (ninS ne1368 nin0)).keep K1347 (ninS ne1368 nin0))
      have F1384 := (((Fld.ext E1303 F1295).keep K1305 (ninS ne1368 nin0)).keep K1347 (ninS ne1368 nin0))
      have F1385 := (((Fld.ext E1303 F1296).keep K1305 (ninS ne1368 nin0)).keep K1347 (ninS ne1368 nin0))
      have F1386 := (((Exa.ext E1303 (F1249.keep K1278)).keep K1305).keep K1347)
      have ne1387 : ca_1222 ≠ b1218 := (Ne.symm (Nat.ne_of_lt (Nat.lt_of_lt_of_le F1218_constructorArgumentsView.lt z1227)))
      have ne1388 : ca_1222 ≠ b1303 := (Nat.ne_of_lt (Nat.lt_of_lt_of_le (Nat.lt_of_lt_of_le F1249.lt K1278.1) (Nat.le_of_eq g1303.symm)))
      have F1389 := (((Fld.ext E1303 (F1250.keep K1278 (ninS ne1387 nin0))).keep K1305 (ninS ne1388 nin0)).keep K1347 (ninS ne1388 nin0))
      have F1390 := (((Fld.ext E1303 (F1251.keep K1278 (ninS ne1387 nin0))).keep K1305 (ninS ne1388 nin0)).keep K1347 (ninS ne1388 nin0))
      have F1391 := (((Fld.ext E1303 (F1252.keep K1278 (ninS ne1387 nin0))).keep K1305 (ninS ne1388 nin0)).keep K1347 (ninS ne1388 nin0))
      have F1392 := (((Exa.ext E1303 (F1253.keep K1278)).keep K1305).keep K1347)
      have ne1393 : pv_1223 ≠ b1218 := (Ne.symm (Nat.ne_of_lt (Nat.lt_of_lt_of_le F1218_constructorArgumentsView.lt z1228)))
      have ne1394 : pv_1223 ≠ b1303 := (Nat.ne_of_lt (Nat.lt_of_lt_of_le (Nat.lt_of_lt_of_le F1253.lt K1278.1) (Nat.le_of_eq g1303.symm)))
      have F1395 := (((Fld.ext E1303 (F1254.keep K1278 (ninS ne1393 nin0))).keep K1305 (ninS ne1394 nin0)).keep K1347 (ninS ne1394 nin0))
      have F1396 := (((Fld.ext E1303 (F1255.keep K1278 (ninS ne1393 nin0))).keep K1305 (ninS ne1394 nin0)).keep K1347 (ninS ne1394 nin0))
      have F1397 := (((Fld.ext E1303 (F1256.keep K1278 (ninS ne1393 nin0))).keep K1305 (ninS ne1394 nin0)).keep K1347 (ninS ne1394 nin0))
      have F1398 := (F1334.keep K1347)
      have ne1399 : ca_1307 ≠ b1303 := (Ne.symm (Nat.ne_of_lt (Nat.lt_of_lt_of_le F1303_constructorArgumentsView.lt z1312)))
      have F1400 := (F1335.keep K1347 (ninS ne1399 nin0))
      have F1401 := (F1336.keep K1347 (ninS ne1399 nin0))
      have F1402 := (F1337.keep K1347 (ninS ne1399 nin0))
      have F1403 := (F1338.keep K1347)
      have ne1404 : pv_1308 ≠ b1303 := (Ne.symm (Nat.ne_of_lt (Nat.lt_of_lt_of_le F1303_constructorArgumentsView.lt z1313)))
      have F1405 := (F1339.keep K1347 (ninS ne1404 nin0))
      have F1406 := (F1340.keep K1347 (ninS ne1404 nin0))
      have F1407 := (F1341.keep K1347 (ninS ne1404 nin0))
      have O1409 : Old Z n0 T1347.heap := O1348.keep K1347 (allS g1304 all0)
      obtain ⟨T1408, v1408, L1408, X1408, hQ1408, st1408⟩ := own_callV X1347 hx hZ (y := own_y_1073) (z := own_y_1073) hown (own_w hw 209 rfl) (own_w hw 210 rfl) (notFace_of_selects (args := #[]) (mvT hZ (own_w hw 212 rfl))) (own_w hw 212 rfl) (own_w hw 211 rfl) (own_w hw 28 rfl) (own_w hw 213 rfl) own_lm_615 (rmMN l Z a0 hw [] w0 w1 w2 w3 wl wle wd mAL mUL mUR mOA wcs kle kd hS b1218 b1303 ca_1222 pv_1223 wt_1224 rv_1267 ca_1307 pv_1308 wt_1309 rv_1275 T1347.heap n0 O1409 F1367 F1369 F1370 F1371 F1372 F1373 F1374 F1375 F1376 F1377 F1378 F1379 F1380 F1381 F1382 F1383 F1384 F1385 F1349 F1350 F1351 F1352 F1353 F1354 F1355 F1356 F1357 F1358 F1359 F1360 F1361 F1362 F1363 F1364 F1365 F1366 F1386 F1389 F1390 F1391 F1392 F1395 F1396 F1397 F1398 F1400 F1401 F1402 F1403 F1405 F1406 F1407 ref_1268 ref_1276 aw_1269 aw_1277) rfl F1367 own_pd_1079 (argsL := [(.ref b1303)]) (rest := []) rfl rfl (g := (mkF m 168 #[.val (.int k1), .val (.int k2), .val (.int k3), .val (.int fl), .val (.int ch), .val .null, .val (.ref b1218), .val (.int (1 : Int32)), .val rv_1267, .val rv_1271, .val rv_1275, .val rv_1267, .val (.ref b1303), .unset, .unset] [(.ref b1303), (.ref b1218)])) rfl (by rw [hml]; rfl) rfl (hb hby at_168) (W := 0) rfl (by decide) (by decide) (by decide) (by decide)
      obtain ⟨r_1410, u3_1411, rfl, M1408, K1408, z1412, F1413, F1414, eq_1415⟩ := hQ1408
      have N1408 := Fr.app N1347 M1408
      subst eq_1415
      refine own_st (fun u_ k_ => st1408 u_ k_) ?_
      show own_Go p e below _ (T1408.setTop (mkF m 171 #[.val (.int k1), .val (.int k2), .val (.int k3), .val (.int fl), .val (.int ch), .val .null, .val (.ref b1218), .val (.int (1 : Int32)), .val rv_1267, .val rv_1271, .val rv_1275, .val rv_1267, .val (.ref b1303), .unset, .unset] [(.ref r_1410)]))
      refine own_st (fun u_ k_ => XS.astore X1408.here hx rfl (hb hby at_171) rfl rfl (l' := #[.val (.int k1), .val (.int k2), .val (.int k3), .val (.int fl), .val (.int ch), .val .null, .val (.ref b1218), .val (.int (1 : Int32)), .val rv_1267, .val rv_1271, .val rv_1275, .val rv_1267, .val (.ref b1303), .val (.ref r_1410), .unset]) rfl k_) ?_
      refine own_st (fun u_ k_ => XS.aload X1408.here hx rfl (hb hby at_173) rfl ref_1268 k_) ?_
      show own_Go p e below _ (T1408.setTop (mkF m 175 #[.val (.int k1), .val (.int k2), .val (.int k3), .val (.int fl), .val (.int ch), .val .null, .val (.ref b1218), .val (.int (1 : Int32)), .val rv_1267, .val rv_1271, .val rv_1275, .val rv_1267, .val (.ref b1303), .val (.ref r_1410), .unset] [rv_1267]))
      rcases ref_cases ref_1268 with rfl | ⟨r1416, rfl⟩
      · show own_Go p e below _ (T1408.setTop (mkF m 175 #[.val (.int k1), .val (.int k2), .val (.int k3), .val (.int fl), .val (.int ch), .val .null, .val (.ref b1218), .val (.int (1 : Int32)), .val .null, .val rv_1271, .val rv_1275, .val .null, .val (.ref b1303), .val (.ref r_1410), .unset] [.null]))
        refine own_st (fun u_ k_ => XS.ifnullYes X1408.here hx rfl (pc0 := 175) (pc' := 183) rfl (hb hby at_175) rfl (by decide) (by decide) k_) ?_
        refine own_st (fun u_ k_ => XS.aload X1408.here hx rfl (hb hby at_183) rfl ref_1276 k_) ?_
        show own_Go p e below _ (T1408.setTop (mkF m 185 #[.val (.int k1), .val (.int k2), .val (.int k3), .val (.int fl), .val (.int ch), .val .null, .val (.ref b1218), .val (.int (1 : Int32)), .val .null, .val rv_1271, .val rv_1275, .val .null, .val (.ref b1303), .val (.ref r_1410), .unset] [rv_1275]))
        have O1418 : Old Z n0 T1408.heap := O1409.keep K1408 all0
        obtain ⟨T1417, v1417, L1417, X1417, hQ1417, st1417⟩ := own_callS X1408 hx hZ (y := own_y_576) hown (own_w hw 206 rfl) (own_w hw 207 rfl) (own_w hw 155 rfl) (own_w hw 208 rfl) own_lm_1075 (rmON l Z a0 hw [] w0 w1 w2 w3 wl wle wd mAL mUL mUR mOA wcs kle kd hS rv_1275 T1408.heap n0 O1418 ref_1276) rfl own_pd_1078 (argsL := [rv_1275]) (rest := []) rfl rfl (g := (mkF m 185 #[.val (.int k1), .val (.int k2), .val (.int k3), .val (.int fl), .val (.int ch), .val .null, .val (.ref b1218), .val (.int (1 : Int32)), .val .null, .val rv_1271, .val rv_1275, .val .null, .val (.ref b1303), .val (.ref r_1410), .unset] [rv_1275])) rfl (by rw [hml]; rfl) rfl (hb hby at_185) (W := 0) rfl (by decide) (by decide) (by decide) (by decide)
        obtain ⟨rfl, M1417, e1417⟩ := hQ1417
        have N1417 := Fr.app N1408 M1417
        refine own_st (fun u_ k_ => st1417 u_ k_) ?_
        show own_Go p e below _ (T1417.setTop (mkF m 188 #[.val (.int k1), .val (.int k2), .val (.int k3), .val (.int fl), .val (.int ch), .val .null, .val (.ref b1218), .val (.int (1 : Int32)), .val .null, .val rv_1271, .val rv_1275, .val .null, .val (.ref b1303), .val (.ref r_1410), .unset] [(own_or rv_1275 (.ref w0))]))
        refine own_st (fun u_ k_ => XS.astoreS X1417.here hx rfl (hb hby at_188) rfl (own_orR (w := .ref w0) ref_1276 rfl) (XT.cat1 (own_orR (w := .ref w0) ref_1276 rfl)) rfl (Or.inl rfl) k_) ?_
        refine own_st (fun u_ k_ => XS.iload X1417.here hx rfl (hb hby at_190) rfl k_) ?_
        show own_Go p e below _ (T1417.setTop (mkF m 192 #[.val (.int k1), .val (.int k2), .val (.int k3), .val (.int fl), .val (.int ch), .val .null, .val (.ref b1218), .val (.int (1 : Int32)), .val .null, .val rv_1271, .val rv_1275, .val .null, .val (.ref b1303), .val (.ref r_1410), .val (own_or rv_1275 (.ref w0))] [(.int (1 : Int32))]))
        refine own_st (fun u_ k_ => XS.ifNo X1417.here hx rfl (hb hby at_192) rfl (XT.i0_eq_f (by decide)) k_) ?_
        refine own_st (fun u_ k_ => XS.aload X1417.here hx rfl (hb hby at_195) rfl rfl k_) ?_
        show own_Go p e below _ (T1417.setTop (mkF m 197 #[.val (.int k1), .val (.int k2), .val (.int k3), .val (.int fl), .val (.int ch), .val .null, .val (.ref b1218), .val (.int (1 : Int32)), .val .null, .val rv_1271, .val rv_1275, .val .null, .val (.ref b1303), .val (.ref r_1410), .val (own_or rv_1275 (.ref w0))] [(.ref r_1410)]))
        obtain ⟨T1419, v1419, L1419, X1419, hQ1419, st1419⟩ := own_callV X1417 hx hZ (y := own_y_569) (z := own_y_569) hown (own_w hw 142 rfl) (own_w hw 143 rfl) (notFace_of_selects (args := #[]) (mvT hZ (own_w hw 145 rfl))) (own_w hw 145 rfl) (own_w hw 144 rfl) (own_w hw 28 rfl) (own_w hw 146 rfl) own_lm_615 (rmGW l Z a0 hw [] w0 w1 w2 w3 wl wle wd mAL mUL mUR mOA wcs kle kd hS r_1410 (own_or (.null : Value) rv_1275) T1408.heap n0 O1418 F1414 (own_orR ref_1268 ref_1276)) e1417 F1413 own_pd_1074 (argsL := []) (rest := []) rfl rfl (g := (mkF m 197 #[.val (.int k1), .val (.int k2), .val (.int k3), .val (.int fl), .val (.int ch), .val .null, .val (.ref b1218), .val (.int (1 : Int32)), .val .null, .val rv_1271, .val rv_1275, .val .null, .val (.ref b1303), .val (.ref r_1410), .val (own_or rv_1275 (.ref w0))] [(.ref r_1410)])) rfl (by rw [hml]; rfl) rfl (hb hby at_197) (W := 0) rfl (by decide) (by decide) (by decide) (by decide)
        obtain ⟨rfl, M1419, e1419⟩ := hQ1419
        have N1419 := Fr.app N1417 M1419
        refine own_st (fun u_ k_ => st1419 u_ k_) ?_
        show own_Go p e below _ (T1419.setTop (mkF m 200 #[.val (.int k1), .val (.int k2), .val (.int k3), .val (.int fl), .val (.int ch), .val .null, .val (.ref b1218), .val (.int (1 : Int32)), .val .null, .val rv_1271, .val rv_1275, .val .null, .val (.ref b1303), .val (.ref r_1410), .val (own_or rv_1275 (.ref w0))] [(own_or (own_or (.null : Value) rv_1275) (.ref w0))]))
        refine own_st (fun u_ k_ => XS.aload X1419.here hx rfl (hb hby at_200) rfl (own_orR (w := .ref w0) ref_1276 rfl) k_) ?_
        refine own_st (fun u_ k_ => XT.acmpNo X1419.here hx rfl (hb hby at_202) rfl (own_orR (w := .ref w0) (own_orR ref_1268 ref_1276) rfl) (own_orR (w := .ref w0) ref_1276 rfl) (XT.aa_ne_f rfl) k_) ?_
        show own_Go p e below _ (T1419.setTop (mkF m 205 #[.val (.int k1), .val (.int k2), .val (.int k3), .val (.int fl), .val (.int ch), .val .null, .val (.ref b1218), .val (.int (1 : Int32)), .val .null, .val rv_1271, .val rv_1275, .val .null, .val (.ref b1303), .val (.ref r_1410), .val (own_or rv_1275 (.ref w0))] []))
        refine own_st (fun u_ k_ => XS.iconst X1419.here hx rfl (hb hby at_205) k_) ?_
        refine own_st (fun u_ k_ => XS.goto X1419.here hx rfl (pc0 := 206) (pc' := 210) rfl (hb hby at_206) (by decide) (by decide) k_) ?_
        show own_Go p e below _ (T1419.setTop (mkF m 210 #[.val (.int k1), .val (.int k2), .val (.int k3), .val (.int fl), .val (.int ch), .val .null, .val (.ref b1218), .val (.int (1 : Int32)), .val .null, .val rv_1271, .val rv_1275, .val .null, .val (.ref b1303), .val (.ref r_1410), .val (own_or rv_1275 (.ref w0))] [(.int (1 : Int32))]))
        refine own_st (fun u_ k_ => XS.istore X1419.here hx rfl (hb hby at_210) rfl (l' := #[.val (.int k1), .val (.int k2), .val (.int k3), .val (.int fl), .val (.int ch), .val .null, .val (.ref b1218), .val (.int (1 : Int32)), .val .null, .val rv_1271, .val rv_1275, .val .null, .val (.ref b1303), .val (.ref r_1410), .val (own_or rv_1275 (.ref w0))]) rfl k_) ?_
        refine own_st (fun u_ k_ => XS.iload X1419.here hx rfl (hb hby at_212) rfl k_) ?_
        show own_Go p e below _ (T1419.setTop (mkF m 214 #[.val (.int k1), .val (.int k2), .val (.int k3), .val (.int fl), .val (.int ch), .val .null, .val (.ref b1218), .val (.int (1 : Int32)), .val .null, .val rv_1271, .val rv_1275, .val .null, .val (.ref b1303), .val (.ref r_1410), .val (own_or rv_1275 (.ref w0))] [(.int (1 : Int32))]))
        have K1420 : Keep h0 h1218 [] := (Keep.refl h0 []).ext E1218
        have z1422 : h0.size ≤ b1218 := Nat.le_trans (Nat.le_refl _) (Nat.le_of_eq g1218.symm)
        have K1421 : Keep h0 T1220.heap [] := K1420.trans K1220 (allS (Or.inr z1422) all0)
        have K1423 : Keep h0 T1278.heap [] := K1421.trans K1278 (allS (Or.inr z1422) all0)
        have K1424 : Keep h0 h1303 [] := K1423.ext E1303
        have z1426 : h0.size ≤ b1303 := Nat.le_trans (Nat.le_trans (Nat.le_trans E1218.1 K1220.1) K1278.1) (Nat.le_of_eq g1303.symm)
        have K1425 : Keep h0 T1305.heap [] := K1424.trans K1305 (allS (Or.inr z1426) all0)
        have K1427 : Keep h0 T1347.heap [] := K1425.trans K1347 (allS (Or.inr z1426) all0)
        have K1428 : Keep h0 T1408.heap [] := K1427.trans K1408 all0
        exact own_retX X1419 hx hlk hret rfl (Or.inl ⟨rfl, by simp, _, rfl⟩) (hb hby at_214) (by decide) (by decide) (show Qrm0 Z w0 w1 w2 w3 wl wle wd mAL mUL mUR mOA wcs kle kd k1 k2 k3 fl ch h0 n0 (some (.int (1 : Int32))) T1419.heap _ from (by rw [e1419]; exact ⟨rfl, N1419, K1428⟩))
      · show own_Go p e below _ (T1408.setTop (mkF m 175 #[.val (.int k1), .val (.int k2), .val (.int k3), .val (.int fl), .val (.int ch), .val .null, .val (.ref b1218), .val (.int (1 : Int32)), .val (.ref r1416), .val rv_1271, .val rv_1275, .val (.ref r1416), .val (.ref b1303), .val (.ref r_1410), .unset] [(.ref r1416)]))
        refine own_st (fun u_ k_ => XS.ifnullNo X1408.here hx rfl (hb hby at_175) rfl k_) ?_
        refine own_st (fun u_ k_ => XS.aload X1408.here hx rfl (hb hby at_178) rfl rfl k_) ?_
        show own_Go p e below _ (T1408.setTop (mkF m 180 #[.val (.int k1), .val (.int k2), .val (.int k3), .val (.int fl), .val (.int ch), .val .null, .val (.ref b1218), .val (.int (1 : Int32)), .val (.ref r1416), .val rv_1271, .val rv_1275, .val (.ref r1416), .val (.ref b1303), .val (.ref r_1410), .unset] [(.ref r1416)]))
        refine own_st (fun u_ k_ => XS.goto X1408.here hx rfl (pc0 := 180) (pc' := 188) rfl (hb hby at_180) (by decide) (by decide) k_) ?_
        refine own_st (fun u_ k_ => XS.astore X1408.here hx rfl (hb hby at_188) rfl rfl (l' := #[.val (.int k1), .val (.int k2), .val (.int k3), .val (.int fl), .val (.int ch), .val .null, .val (.ref b1218), .val (.int (1 : Int32)), .val (.ref r1416), .val rv_1271, .val rv_1275, .val (.ref r1416), .val (.ref b1303), .val (.ref r_1410), .val (.ref r1416)]) rfl k_) ?_
        show own_Go p e below _ (T1408.setTop (mkF m 190 #[.val (.int k1), .val (.int k2), .val (.int k3), .val (.int fl), .val (.int ch), .val .null, .val (.ref b1218), .val (.int (1 : Int32)), .val (.ref r1416), .val rv_1271, .val rv_1275, .val (.ref r1416), .val (.ref b1303), .val (.ref r_1410), .val (.ref r1416)] []))
        refine own_st (fun u_ k_ => XS.iload X1408.here hx rfl (hb hby at_190) rfl k_) ?_
        refine own_st (fun u_ k_ => XS.ifNo X1408.here hx rfl (hb hby at_192) rfl (XT.i0_eq_f (by decide)) k_) ?_
        show own_Go p e below _ (T1408.setTop (mkF m 195 #[.val (.int k1), .val (.int k2), .val (.int k3), .val (.int fl), .val (.int ch), .val .null, .val (.ref b1218), .val (.int (1 : Int32)), .val (.ref r1416), .val rv_1271, .val rv_1275, .val (.ref r1416), .val (.ref b1303), .val (.ref r_1410), .val (.ref r1416)] []))
        refine own_st (fun u_ k_ => XS.aload X1408.here hx rfl (hb hby at_195) rfl rfl k_) ?_
        have O1430 : Old Z n0 T1408.heap := O1409.keep K1408 all0
        obtain ⟨T1429, v1429, L1429, X1429, hQ1429, st1429⟩ := own_callV X1408 hx hZ (y := own_y_569) (z := own_y_569) hown (own_w hw 142 rfl) (own_w hw 143 rfl) (notFace_of_selects (args := #[]) (mvT hZ (own_w hw 145 rfl))) (own_w hw 145 rfl) (own_w hw 144 rfl) (own_w hw 28 rfl) (own_w hw 146 rfl) own_lm_615 (rmGW l Z a0 hw [] w0 w1 w2 w3 wl wle wd mAL mUL mUR mOA wcs kle kd hS r_1410 (own_or ((.ref r1416) : Value) rv_1275) T1408.heap n0 O1430 F1414 (own_orR ref_1268 ref_1276)) rfl F1413 own_pd_1074 (argsL := []) (rest := []) rfl rfl (g := (mkF m 197 #[.val (.int k1), .val (.int k2), .val (.int k3), .val (.int fl), .val (.int ch), .val .null, .val (.ref b1218), .val (.int (1 : Int32)), .val (.ref r1416), .val rv_1271, .val rv_1275, .val (.ref r1416), .val (.ref b1303), .val (.ref r_1410), .val (.ref r1416)] [(.ref r_1410)])) rfl (by rw [hml]; rfl) rfl (hb hby at_197) (W := 0) rfl (by decide) (by decide) (by decide) (by decide)
        obtain ⟨rfl, M1429, e1429⟩ := hQ1429
        have N1429 := Fr.app N1408 M1429
        refine own_st (fun u_ k_ => st1429 u_ k_) ?_
        show own_Go p e below _ (T1429.setTop (mkF m 200 #[.val (.int k1), .val (.int k2), .val (.int k3), .val (.int fl), .val (.int ch), .val .null, .val (.ref b1218), .val (.int (1 : Int32)), .val (.ref r1416), .val rv_1271, .val rv_1275, .val (.ref r1416), .val (.ref b1303), .val (.ref r_1410), .val (.ref r1416)] [(own_or (own_or ((.ref r1416) : Value) rv_1275) (.ref w0))]))
        refine own_st (fun u_ k_ => XS.aload X1429.here hx rfl (hb hby at_200) rfl rfl k_) ?_
        refine own_st (fun u_ k_ => XT.acmpNo X1429.here hx rfl (hb hby at_202) rfl (own_orR (w := .ref w0) (own_orR ref_1268 ref_1276) rfl) rfl (XT.aa_ne_f rfl) k_) ?_
        show own_Go p e below _ (T1429.setTop (mkF m 205 #[.val (.int k1), .val (.int k2), .val (.int k3), .val (.int fl), .val (.int ch), .val .null, .val (.ref b1218), .val (.int (1 : Int32)), .val (.ref r1416), .val rv_1271, .val rv_1275, .val (.ref r1416), .val (.ref b1303), .val (.ref r_1410), .val (.ref r1416)] []))
        refine own_st (fun u_ k_ => XS.iconst X1429.here hx rfl (hb hby at_205) k_) ?_
        refine own_st (fun u_ k_ => XS.goto X1429.here hx rfl (pc0 := 206) (pc' := 210) rfl (hb hby at_206) (by decide) (by decide) k_) ?_
        show own_Go p e below _ (T1429.setTop (mkF m 210 #[.val (.int k1), .val (.int k2), .val (.int k3), .val (.int fl), .val (.int ch), .val .null, .val (.ref b1218), .val (.int (1 : Int32)), .val (.ref r1416), .val rv_1271, .val rv_1275, .val (.ref r1416), .val (.ref b1303), .val (.ref r_1410), .val (.ref r1416)] [(.int (1 : Int32))]))
        refine own_st (fun u_ k_ => XS.istore X1429.here hx rfl (hb hby at_210) rfl (l' := #[.val (.int k1), .val (.int k2), .val (.int k3), .val (.int fl), .val (.int ch), .val .null, .val (.ref b1218), .val (.int (1 : Int32)), .val (.ref r1416), .val rv_1271, .val rv_1275, .val (.ref r1416), .val (.ref b1303), .val (.ref r_1410), .val (.ref r1416)]) rfl k_) ?_
        refine own_st (fun u_ k_ => XS.iload X1429.here hx rfl (hb hby at_212) rfl k_) ?_
        show own_Go p e below _ (T1429.setTop (mkF m 214 #[.val (.int k1), .val (.int k2), .val (.int k3), .val (.int fl), .val (.int ch), .val .null, .val (.ref b1218), .val (.int (1 : Int32)), .val (.ref r1416), .val rv_1271, .val rv_1275, .val (.ref r1416), .val (.ref b1303), .val (.ref r_1410), .val (.ref r1416)] [(.int (1 : Int32))]))
        have K1431 : Keep h0 h1218 [] := (Keep.refl h0 []).ext E1218
        have z1433 : h0.size ≤ b1218 := Nat.le_trans (Nat.le_refl _) (Nat.le_of_eq g1218.symm)
        have K1432 : Keep h0 T1220.heap [] := K1431.trans K1220 (allS (Or.inr z1433) all0)
        have K1434 : Keep h0 T1278.heap [] := K1432.trans K1278 (allS (Or.inr z1433) all0)
        have K1435 : Keep h0 h1303 [] := K1434.ext E1303
        have z1437 : h0.size ≤ b1303 := Nat.le_trans (Nat.le_trans (Nat.le_trans E1218.1 K1220.1) K1278.1) (Nat.le_of_eq g1303.symm)
        have K1436 : Keep h0 T1305.heap [] := K1435.trans K1305 (allS (Or.inr z1437) all0)
        have K1438 : Keep h0 T1347.heap [] := K1436.trans K1347 (allS (Or.inr z1437) all0)
        have K1439 : Keep h0 T1408.heap [] := K1438.trans K1408 all0
        exact own_retX X1429 hx hlk hret rfl (Or.inl ⟨rfl, by simp, _, rfl⟩) (hb hby at_214) (by decide) (by decide) (show Qrm0 Z w0 w1 w2 w3 wl wle wd mAL mUL mUR mOA wcs kle kd k1 k2 k3 fl ch h0 n0 (some (.int (1 : Int32))) T1429.heap _ from (by rw [e1429]; exact ⟨rfl, N1429, K1439⟩))
    · refine own_st (fun u_ k_ => XS.ifNo X1299.here hx rfl (hb hby at_108) rfl (XT.i0_eq_f hc1300) k_) ?_
      refine own_st (fun u_ k_ => XS.aload X1299.here hx rfl (hb hby at_111) rfl rfl k_) ?_
      show own_Go p e below _ (T1299.setTop (mkF m 113 #[.val (.int k1), .val (.int k2), .val (.int k3), .val (.int fl), .val (.int ch), .val .null, .val (.ref b1218), .val (.int (1 : Int32)), .val rv_1267, .val rv_1271, .val rv_1275, .val rv_1267, .unset, .unset, .unset] [(.ref b1218)]))
      refine own_st (fun u_ k_ => XS.aload X1299.here hx rfl (hb hby at_113) rfl ref_1272 k_) ?_
      have F1440 := (F1257.keep K1278)
      have ne1441 : wt_1224 ≠ b1218 := (Ne.symm (Nat.ne_of_lt (Nat.lt_of_lt_of_le F1218_constructorArgumentsView.lt z1229)))
      have F1442 := (F1258.keep K1278 (ninS ne1441 nin0))
      have ne1443 : ar_1225 ≠ b1218 := (Ne.symm (Nat.ne_of_lt (Nat.lt_of_lt_of_le F1218_constructorArgumentsView.lt z1230)))
      have F1444 := (F1259.keep K1278 (ninS ne1443 nin0))
      have F1445 := (F1260.keep K1278)
      obtain ⟨T1446, v1446, L1446, X1446, hQ1446, st1446⟩ := own_callV X1299 hx hZ (y := own_y_647) (z := own_y_647) hown (own_w hw 162 rfl) (own_w hw 163 rfl) (notFace_of_selects (args := #[]) (mvT hZ (own_w hw 165 rfl))) (own_w hw 165 rfl) (own_w hw 164 rfl) (own_w hw 28 rfl) (own_w hw 166 rfl) own_lm_615 (rmSW l Z a0 hw [] w0 w1 w2 w3 wl wle wd mAL mUL mUR mOA wcs kle kd hS b1218 rv_1271 rv_1267 ca_1222 pv_1223 wt_1224 ar_1225 kr_1226 (.null : Value) T1278.heap n0 O1298 g1219 ref_1272 F1279 F1280 F1281 F1282 F1283 F1284 F1285 F1286 F1287 F1288 F1289 F1290 F1291 F1292 F1293 F1294 F1295 F1296 F1440 F1442 F1444 F1445 rfl) e1299 F1279 own_pd_1077 (argsL := [rv_1271]) (rest := []) rfl rfl (g := (mkF m 115 #[.val (.int k1), .val (.int k2), .val (.int k3), .val (.int fl), .val (.int ch), .val .null, .val (.ref b1218), .val (.int (1 : Int32)), .val rv_1267, .val rv_1271, .val rv_1275, .val rv_1267, .unset, .unset, .unset] [rv_1271, (.ref b1218)])) rfl (by rw [hml]; rfl) rfl (hb hby at_115) (W := 0) rfl (by decide) (by decide) (by decide) (by decide)
      obtain ⟨rfl, M1446, K1446, F1447, F1448, F1449, F1450, F1451, F1452, F1453, F1454, F1455, F1456, F1457, F1458, F1459, F1460, F1461, F1462, F1463, F1464⟩ := hQ1446
      have N1446 := Fr.app N1299 M1446
      refine own_st (fun u_ k_ => st1446 u_ k_) ?_
      show own_Go p e below _ (T1446.setTop (mkF m 118 #[.val (.int k1), .val (.int k2), .val (.int k3), .val (.int fl), .val (.int ch), .val .null, .val (.ref b1218), .val (.int (1 : Int32)), .val rv_1267, .val rv_1271, .val rv_1275, .val rv_1267, .unset, .unset, .unset] []))
      refine own_st (fun u_ k_ => XS.aload X1446.here hx rfl (hb hby at_118) rfl ref_1272 k_) ?_
      refine own_st (fun u_ k_ => XS.astoreS X1446.here hx rfl (hb hby at_120) rfl ref_1272 (XT.cat1 ref_1272) rfl (Or.inr ⟨_, rfl, XT.cat1 ref_1268⟩) k_) ?_
      show own_Go p e below _ (T1446.setTop (mkF m 122 #[.val (.int k1), .val (.int k2), .val (.int k3), .val (.int fl), .val (.int ch), .val .null, .val (.ref b1218), .val (.int (1 : Int32)), .val rv_1267, .val rv_1271, .val rv_1275, .val rv_1271, .unset, .unset, .unset] []))
      refine own_st (fun u_ k_ => XS.iload X1446.here hx rfl (hb hby at_122) rfl k_) ?_
      refine own_st (fun u_ k_ => XS.ifNo X1446.here hx rfl (hb hby at_124) rfl (XT.i0_eq_f (by decide)) k_) ?_
      show own_Go p e below _ (T1446.setTop (mkF m 127 #[.val (.int k1), .val (.int k2), .val (.int k3), .val (.int fl), .val (.int ch), .val .null, .val (.ref b1218), .val (.int (1 : Int32)), .val rv_1267, .val rv_1271, .val rv_1275, .val rv_1271, .unset, .unset, .unset] []))
      refine own_st (fun u_ k_ => XS.aload X1446.here hx rfl (hb hby at_127) rfl rfl k_) ?_
      have O1466 : Old Z n0 T1446.heap := O1298.keep K1446 (allS g1219 all0)
      obtain ⟨T1465, v1465, L1465, X1465, hQ1465, st1465⟩ := own_callV X1446 hx hZ (y := own_y_569) (z := own_y_569) hown (own_w hw 142 rfl) (own_w hw 143 rfl) (notFace_of_selects (args := #[]) (mvT hZ (own_w hw 145 rfl))) (own_w hw 145 rfl) (own_w hw 144 rfl) (own_w hw 28 rfl) (own_w hw 146 rfl) own_lm_615 (rmGW l Z a0 hw [] w0 w1 w2 w3 wl wle wd mAL mUL mUR mOA wcs kle kd hS b1218 rv_1271 T1446.heap n0 O1466 F1454 ref_1272) rfl F1447 own_pd_1074 (argsL := []) (rest := []) rfl rfl (g := (mkF m 129 #[.val (.int k1), .val (.int k2), .val (.int k3), .val (.int fl), .val (.int ch), .val .null, .val (.ref b1218), .val (.int (1 : Int32)), .val rv_1267, .val rv_1271, .val rv_1275, .val rv_1271, .unset, .unset, .unset] [(.ref b1218)])) rfl (by rw [hml]; rfl) rfl (hb hby at_129) (W := 0) rfl (by decide) (by decide) (by decide) (by decide)
      obtain ⟨rfl, M1465, e1465⟩ := hQ1465
      have N1465 := Fr.app N1446 M1465
      refine own_st (fun u_ k_ => st1465 u_ k_) ?_
      show own_Go p e below _ (T1465.setTop (mkF m 132 #[.val (.int k1), .val (.int k2), .val (.int k3), .val (.int fl), .val (.int ch), .val .null, .val (.ref b1218), .val (.int (1 : Int32)), .val rv_1267, .val rv_1271, .val rv_1275, .val rv_1271, .unset, .unset, .unset] [(own_or rv_1271 (.ref w0))]))
      refine own_st (fun u_ k_ => XS.aload X1465.here hx rfl (hb hby at_132) rfl ref_1272 k_) ?_
      obtain ⟨T1467, v1467, L1467, X1467, hQ1467, st1467⟩ := own_callS X1465 hx hZ (y := own_y_576) hown (own_w hw 206 rfl) (own_w hw 207 rfl) (own_w hw 155 rfl) (own_w hw 208 rfl) own_lm_1075 (rmON l Z a0 hw [] w0 w1 w2 w3 wl wle wd mAL mUL mUR mOA wcs kle kd hS rv_1271 T1446.heap n0 O1466 ref_1272) e1465 own_pd_1078 (argsL := [rv_1271]) (rest := [(own_or rv_1271 (.ref w0))]) rfl rfl (g := (mkF m 134 #[.val (.int k1), .val (.int k2), .val (.int k3), .val (.int fl), .val (.int ch), .val .null, .val (.ref b1218), .val (.int (1 : Int32)), .val rv_1267, .val rv_1271, .val rv_1275, .val rv_1271, .unset, .unset, .unset] [rv_1271, (own_or rv_1271 (.ref w0))])) rfl (by rw [hml]; rfl) rfl (hb hby at_134) (W := 1) (by show 2 * 0 + _ = _; simp only [List.map, List.sum_cons, List.sum_nil, XT.cat1 (own_orR (w := .ref w0) ref_1272 rfl)]; rfl) (by decide) (by decide) (by decide) (by decide)
      obtain ⟨rfl, M1467, e1467⟩ := hQ1467
      have N1467 := Fr.app N1465 M1467
      refine own_st (fun u_ k_ => st1467 u_ k_) ?_
      show own_Go p e below _ (T1467.setTop (mkF m 137 #[.val (.int k1), .val (.int k2), .val (.int k3), .val (.int fl), .val (.int ch), .val .null, .val (.ref b1218), .val (.int (1 : Int32)), .val rv_1267, .val rv_1271, .val rv_1275, .val rv_1271, .unset, .unset, .unset] [(own_or rv_1271 (.ref w0)), (own_or rv_1271 (.ref w0))]))
      refine own_st (fun u_ k_ => XT.acmpNo X1467.here hx rfl (hb hby at_137) rfl (own_orR (w := .ref w0) ref_1272 rfl) (own_orR (w := .ref w0) ref_1272 rfl) (XT.aa_ne_f rfl) k_) ?_
      show own_Go p e below _ (T1467.setTop (mkF m 140 #[.val (.int k1), .val (.int k2), .val (.int k3), .val (.int fl), .val (.int ch), .val .null, .val (.ref b1218), .val (.int (1 : Int32)), .val rv_1267, .val rv_1271, .val rv_1275, .val rv_1271, .unset, .unset, .unset] []))
      refine own_st (fun u_ k_ => XS.iconst X1467.here hx rfl (hb hby at_140) k_) ?_
      refine own_st (fun u_ k_ => XS.goto X1467.here hx rfl (pc0 := 141) (pc' := 145) rfl (hb hby at_141) (by decide) (by decide) k_) ?_
      show own_Go p e below _ (T1467.setTop (mkF m 145 #[.val (.int k1), .val (.int k2), .val (.int k3), .val (.int fl), .val (.int ch), .val .null, .val (.ref b1218), .val (.int (1 : Int32)), .val rv_1267, .val rv_1271, .val rv_1275, .val rv_1271, .unset, .unset, .unset] [(.int (1 : Int32))]))
      refine own_st (fun u_ k_ => XS.istore X1467.here hx rfl (hb hby at_145) rfl (l' := #[.val (.int k1), .val (.int k2), .val (.int k3), .val (.int fl), .val (.int ch), .val .null, .val (.ref b1218), .val (.int (1 : Int32)), .val rv_1267, .val rv_1271, .val rv_1275, .val rv_1271, .unset, .unset, .unset]) rfl k_) ?_
      obtain ⟨T1468, h1468, X1468, e1468, E1468, A1468, D1468, U1468, st1468⟩ := newO X1467 hx hZ hown (own_w hw 26 rfl) (own_w hw 27 rfl) (own_w hw 28 rfl) e1467 (g := (mkF m 147 #[.val (.int k1), .val (.int k2), .val (.int k3), .val (.int fl), .val (.int ch), .val .null, .val (.ref b1218), .val (.int (1 : Int32)), .val rv_1267, .val rv_1271, .val rv_1275, .val rv_1271, .unset, .unset, .unset] [])) rfl (hb hby at_147) (by decide) (by decide)
      obtain ⟨b1468, g1468⟩ : ∃ z, z = T1446.heap.size := ⟨_, rfl⟩
      rw [← g1468] at A1468 D1468 U1468 st1468
      have F1468_qualifiers : Fld Z h1468 b1468 own_c_235 "qualifiers" "Ljava/util/List;" .null := D1468 (Or.inl (own_w hw 40 rfl)) (ty := (.object "java/util/List")) own_lm_104
      have F1468_dependsOn : Fld Z h1468 b1468 own_c_235 "dependsOn" "Ljava/util/List;" .null := D1468 (Or.inl (own_w hw 42 rfl)) (ty := (.object "java/util/List")) own_lm_104
      have F1468_constructorArguments : Fld Z h1468 b1468 own_c_235 "constructorArguments" "Ljava/util/List;" .null := D1468 (Or.inr (own_w hw 68 rfl)) (ty := (.object "java/util/List")) own_lm_104
      have F1468_constructorArgumentsView : Fld Z h1468 b1468 own_c_235 "constructorArgumentsView" "Ljava/util/List;" .null := D1468 (Or.inr (own_w hw 113 rfl)) (ty := (.object "java/util/List")) own_lm_104
      have F1468_propertyValues : Fld Z h1468 b1468 own_c_235 "propertyValues" "Ljava/util/List;" .null := D1468 (Or.inr (own_w hw 115 rfl)) (ty := (.object "java/util/List")) own_lm_104
      have F1468_propertyValuesView : Fld Z h1468 b1468 own_c_235 "propertyValuesView" "Ljava/util/List;" .null := D1468 (Or.inr (own_w hw 117 rfl)) (ty := (.object "java/util/List")) own_lm_104
      have F1468_watchers : Fld Z h1468 b1468 own_c_235 "watchers" "Ljava/util/List;" .null := D1468 (Or.inr (own_w hw 139 rfl)) (ty := (.object "java/util/List")) own_lm_104
      have F1468_className : Fld Z h1468 b1468 own_c_235 "className" "Ljava/lang/String;" .null := D1468 (Or.inl (own_w hw 141 rfl)) (ty := (.object "java/lang/String")) own_lm_319
      have F1468_autowire : Fld Z h1468 b1468 own_c_235 "autowire" own_c_559 .null := D1468 (Or.inl (own_w hw 148 rfl)) (ty := (.object "com/example/temanggung/temanggung/beans/factory/Autowire")) own_lm_379
      have F1468_value : Fld Z h1468 b1468 own_c_235 "value" own_c_560 .null := D1468 (Or.inl (own_w hw 221 rfl)) (ty := (.object "com/example/temanggung/temanggung/beans/factory/DefinedValue")) own_lm_396
      have F1468_abstractDefinition : Fld Z h1468 b1468 own_c_235 "abstractDefinition" "Z" (.int (0 : Int32)) := D1468 (Or.inl (own_w hw 223 rfl)) (ty := .boolean) own_lm_413
      have F1468_primary : Fld Z h1468 b1468 own_c_235 "primary" "Z" (.int (0 : Int32)) := D1468 (Or.inl (own_w hw 225 rfl)) (ty := .boolean) own_lm_413
      have F1468_scope : Fld Z h1468 b1468 own_c_235 "scope" "Ljava/lang/String;" .null := D1468 (Or.inl (own_w hw 227 rfl)) (ty := (.object "java/lang/String")) own_lm_319
      have F1468_lazyInit : Fld Z h1468 b1468 own_c_235 "lazyInit" "Ljava/lang/Boolean;" .null := D1468 (Or.inl (own_w hw 229 rfl)) (ty := (.object "java/lang/Boolean")) own_lm_462
      have F1468_factoryBeanName : Fld Z h1468 b1468 own_c_235 "factoryBeanName" "Ljava/lang/String;" .null := D1468 (Or.inl (own_w hw 233 rfl)) (ty := (.object "java/lang/String")) own_lm_319
      have F1468_factoryMethodName : Fld Z h1468 b1468 own_c_235 "factoryMethodName" "Ljava/lang/String;" .null := D1468 (Or.inl (own_w hw 235 rfl)) (ty := (.object "java/lang/String")) own_lm_319
      have F1468_initMethodName : Fld Z h1468 b1468 own_c_235 "initMethodName" "Ljava/lang/String;" .null := D1468 (Or.inl (own_w hw 324 rfl)) (ty := (.object "java/lang/String")) own_lm_319
      have F1468_destroyMethodName : Fld Z h1468 b1468 own_c_235 "destroyMethodName" "Ljava/lang/String;" .null := D1468 (Or.inl (own_w hw 326 rfl)) (ty := (.object "java/lang/String")) own_lm_319
      have F1468_origin : Fld Z h1468 b1468 own_c_235 "origin" "Ljava/lang/String;" .null := D1468 (Or.inl (own_w hw 328 rfl)) (ty := (.object "java/lang/String")) own_lm_319
      refine own_st (fun u_ k_ => st1468 u_ k_) ?_
      show own_Go p e below _ (T1468.setTop (mkF m 150 #[.val (.int k1), .val (.int k2), .val (.int k3), .val (.int fl), .val (.int ch), .val .null, .val (.ref b1218), .val (.int (1 : Int32)), .val rv_1267, .val rv_1271, .val rv_1275, .val rv_1271, .unset, .unset, .unset] [(.ref b1468)]))
      refine own_st (fun u_ k_ => XS.dup X1468.here hx rfl (hb hby at_150) rfl rfl k_) ?_
      refine own_st (fun u_ k_ => XS.aconstNull X1468.here hx rfl (hb hby at_151) k_) ?_
      show own_Go p e below _ (T1468.setTop (mkF m 152 #[.val (.int k1), .val (.int k2), .val (.int k3), .val (.int fl), .val (.int ch), .val .null, .val (.ref b1218), .val (.int (1 : Int32)), .val rv_1267, .val rv_1271, .val rv_1275, .val rv_1271, .unset, .unset, .unset] [.null, (.ref b1468), (.ref b1468)]))
      have g1469 : n0 ≤ b1468 := Nat.le_trans (own_nl O1466) (Nat.le_of_eq g1468.symm)
      have O1471 : Old Z n0 h1468 := O1466.ext E1468
      obtain ⟨T1470, v1470, L1470, X1470, hQ1470, st1470⟩ := own_callN X1468 hx hZ (y := own_y_558) rfl hown (own_w hw 29 rfl) (own_w hw 30 rfl) (own_w hw 28 rfl) (own_w hw 31 rfl) own_lm_615 (rmBI l Z a0 hw [] w0 w1 w2 w3 wl wle wd mAL mUL mUR mOA wcs kle kd hS b1468 (.null : Value) h1468 n0 O1471 g1469 rfl A1468 F1468_qualifiers F1468_dependsOn F1468_constructorArguments F1468_constructorArgumentsView F1468_propertyValues F1468_propertyValuesView F1468_watchers F1468_className F1468_autowire F1468_value F1468_abstractDefinition F1468_primary F1468_scope F1468_lazyInit F1468_factoryBeanName F1468_factoryMethodName F1468_initMethodName F1468_destroyMethodName F1468_origin) e1468 own_pd_799 (a := b1468) (argsL := [.null]) (rest := [(.ref b1468)]) rfl rfl (g := (mkF m 152 #[.val (.int k1), .val (.int k2), .val (.int k3), .val (.int fl), .val (.int ch), .val .null, .val (.ref b1218), .val (.int (1 : Int32)), .val rv_1267, .val rv_1271, .val rv_1275, .val rv_1271, .unset, .unset, .unset] [.null, (.ref b1468), (.ref b1468)])) rfl (by rw [hml]; rfl) rfl (hb hby at_152) (W := 1) rfl (by decide) (by decide) (by decide) (by decide)
      obtain ⟨ca_1472, pv_1473, wt_1474, ar_1475, kr_1476, rfl, M1470, K1470, z1477, z1478, z1479, z1480, F1481, F1482, F1483, F1484, F1485, F1486, F1487, F1488, F1489, F1490, F1491, F1492, F1493, F1494, F1495, F1496, F1497, F1498, F1499, F1500, F1501, F1502, F1503, F1504, F1505, F1506, F1507, F1508, F1509, F1510, ne_1511⟩ := hQ1470
      have N1470 := Fr.app N1467 M1470
      refine own_st (fun u_ k_ => st1470 u_ k_) ?_
      show own_Go p e below _ (T1470.setTop (mkF m 155 #[.val (.int k1), .val (.int k2), .val (.int k3), .val (.int fl), .val (.int ch), .val .null, .val (.ref b1218), .val (.int (1 : Int32)), .val rv_1267, .val rv_1271, .val rv_1275, .val rv_1271, .unset, .unset, .unset] [(.ref b1468)]))
      refine own_st (fun u_ k_ => XS.astore X1470.here hx rfl (hb hby at_155) rfl rfl (l' := #[.val (.int k1), .val (.int k2), .val (.int k3), .val (.int fl), .val (.int ch), .val .null, .val (.ref b1218), .val (.int (1 : Int32)), .val rv_1267, .val rv_1271, .val rv_1275, .val rv_1271, .val (.ref b1468), .unset, .unset]) rfl k_) ?_
      refine own_st (fun u_ k_ => XS.aload X1470.here hx rfl (hb hby at_157) rfl rfl k_) ?_
      show own_Go p e below _ (T1470.setTop (mkF m 159 #[.val (.int k1), .val (.int k2), .val (.int k3), .val (.int fl), .val (.int ch), .val .null, .val (.ref b1218), .val (.int (1 : Int32)), .val rv_1267, .val rv_1271, .val rv_1275, .val rv_1271, .val (.ref b1468), .unset, .unset] [(.ref b1468)]))
      refine own_st (fun u_ k_ => XS.aload X1470.here hx rfl (hb hby at_159) rfl ref_1276 k_) ?_
      have O1513 : Old Z n0 T1470.heap := O1471.keep K1470 (allS g1469 all0)
      obtain ⟨T1512, v1512, L1512, X1512, hQ1512, st1512⟩ := own_callV X1470 hx hZ (y := own_y_647) (z := own_y_647) hown (own_w hw 162 rfl) (own_w hw 163 rfl) (notFace_of_selects (args := #[]) (mvT hZ (own_w hw 165 rfl))) (own_w hw 165 rfl) (own_w hw 164 rfl) (own_w hw 28 rfl) (own_w hw 166 rfl) own_lm_615 (rmSW l Z a0 hw [] w0 w1 w2 w3 wl wle wd mAL mUL mUR mOA wcs kle kd hS b1468 rv_1275 (.null : Value) ca_1472 pv_1473 wt_1474 ar_1475 kr_1476 (.null : Value) T1470.heap n0 O1513 g1469 ref_1276 F1481 F1482 F1483 F1484 F1485 F1486 F1487 F1488 F1489 F1490 F1491 F1492 F1493 F1494 F1495 F1496 F1497 F1498 F1507 F1508 F1509 F1510 rfl) rfl F1481 own_pd_1077 (argsL := [rv_1275]) (rest := []) rfl rfl (g := (mkF m 161 #[.val (.int k1), .val (.int k2), .val (.int k3), .val (.int fl), .val (.int ch), .val .null, .val (.ref b1218), .val (.int (1 : Int32)), .val rv_1267, .val rv_1271, .val rv_1275, .val rv_1271, .val (.ref b1468), .unset, .unset] [rv_1275, (.ref b1468)])) rfl (by rw [hml]; rfl) rfl (hb hby at_161) (W := 0) rfl (by decide) (by decide) (by decide) (by decide)
      obtain ⟨rfl, M1512, K1512, F1514, F1515, F1516, F1517, F1518, F1519, F1520, F1521, F1522, F1523, F1524, F1525, F1526, F1527, F1528, F1529, F1530, F1531⟩ := hQ1512
      have N1512 := Fr.app N1470 M1512
      refine own_st (fun u_ k_ => st1512 u_ k_) ?_
      show own_Go p e below _ (T1512.setTop (mkF m 164 #[.val (.int k1), .val (.int k2), .val (.int k3), .val (.int fl), .val (.int ch), .val .null, .val (.ref b1218), .val (.int (1 : Int32)), .val rv_1267, .val rv_1271, .val rv_1275, .val rv_1271, .val (.ref b1468), .unset, .unset] []))
      refine own_st (fun u_ k_ => XS.aload X1512.here hx rfl (hb hby at_164) rfl rfl k_) ?_
      refine own_st (fun u_ k_ => XS.aload X1512.here hx rfl (hb hby at_166) rfl rfl k_) ?_
      show own_Go p e below _ (T1512.setTop (mkF m 168 #[.val (.int k1), .val (.int k2), .val (.int k3), .val (.int fl), .val (.int ch), .val .null, .val (.ref b1218), .val (.int (1 : Int32)), .val rv_1267, .val rv_1271, .val rv_1275, .val rv_1271, .val (.ref b1468), .unset, .unset] [(.ref b1468), (.ref b1218)]))
      have F1532 := (((Exa.ext E1468 F1447).keep K1470).keep K1512)
      have ne1533 : b1218 ≠ b1468 := (Nat.ne_of_lt (Nat.lt_of_lt_of_le F1447.lt (Nat.le_of_eq g1468.symm)))
      have F1534 := (((Fld.ext E1468 F1448).keep K1470 (ninS ne1533 nin0)).keep K1512 (ninS ne1533 nin0))
      have F1535 := (((Fld.ext E1468 F1449).keep K1470 (ninS ne1533 nin0)).keep K1512 (ninS ne1533 nin0))
      have F1536 := (((Fld.ext E1468 F1450).keep K1470 (ninS ne1533 nin0)).keep K1512 (ninS ne1533 nin0))
      have F1537 := (((Fld.ext E1468 F1451).keep K1470 (ninS ne1533 nin0)).keep K1512 (ninS ne1533 nin0))
      have F1538 := (((Fld.ext E1468 F1452).keep K1470 (ninS ne1533 nin0)).keep K1512 (ninS ne1533 nin0))
      have F1539 := (((Fld.ext E1468 F1453).keep K1470 (ninS ne1533 nin0)).keep K1512 (ninS ne1533 nin0))
      have F1540 := (((Fld.ext E1468 F1454).keep K1470 (ninS ne1533 nin0)).keep K1512 (ninS ne1533 nin0))
      have F1541 := (((Fld.ext E1468 F1455).keep K1470 (ninS ne1533 nin0)).keep K1512 (ninS ne1533 nin0))
      have F1542 := (((Fld.ext E1468 F1456).keep K1470 (ninS ne1533 nin0)).keep K1512 (ninS ne1533 nin0))
      have F1543 := (((Fld.ext E1468 F1457).keep K1470 (ninS ne1533 nin0)).keep K1512 (ninS ne1533 nin0))
      have F1544 := (((Fld.ext E1468 F1458).keep K1470 (ninS ne1533 nin0)).keep K1512 (ninS ne1533 nin0))
      have F1545 := (((Fld.ext E1468 F1459).keep K1470 (ninS ne1533 nin0)).keep K1512 (ninS ne1533 nin0))
      have F1546 := (((Fld.ext E1468 F1460).keep K1470 (ninS ne1533 nin0)).keep K1512 (ninS ne1533 nin0))
      have F1547 := (((Fld.ext E1468 F1461).keep K1470 (ninS ne1533 nin0)).keep K1512 (ninS ne1533 nin0))
      have F1548 := (((Fld.ext E1468 F1462).keep K1470 (ninS ne1533 nin0)).keep K1512 (ninS ne1533 nin0))
      have F1549 := (((Fld.ext E1468 F1463).keep K1470 (ninS ne1533 nin0)).keep K1512 (ninS ne1533 nin0))
      have F1550 := (((Fld.ext E1468 F1464).keep K1470 (ninS ne1533 nin0)).keep K1512 (ninS ne1533 nin0))
      have F1551 := (((Exa.ext E1468 ((F1249.keep K1278).keep K1446)).keep K1470).keep K1512)
      have ne1552 : ca_1222 ≠ b1218 := (Ne.symm (Nat.ne_of_lt (Nat.lt_of_lt_of_le F1218_constructorArgumentsView.lt z1227)))
      have ne1553 : ca_1222 ≠ b1468 := (Nat.ne_of_lt (Nat.lt_of_lt_of_le (Nat.lt_of_lt_of_le F1249.lt (Nat.le_trans K1278.1 K1446.1)) (Nat.le_of_eq g1468.symm)))
      have F1554 := (((Fld.ext E1468 ((F1250.keep K1278 (ninS ne1552 nin0)).keep K1446 (ninS ne1552 nin0))).keep K1470 (ninS ne1553 nin0)).keep K1512 (ninS ne1553 nin0))
      have F1555 := (((Fld.ext E1468 ((F1251.keep K1278 (ninS ne1552 nin0)).keep K1446 (ninS ne1552 nin0))).keep K1470 (ninS ne1553 nin0)).keep K1512 (ninS ne1553 nin0))
      have F1556 := (((Fld.ext E1468 ((F1252.keep K1278 (ninS ne1552 nin0)).keep K1446 (ninS ne1552 nin0))).keep K1470 (ninS ne1553 nin0)).keep K1512 (ninS ne1553 nin0))
      have F1557 := (((Exa.ext E1468 ((F1253.keep K1278).keep K1446)).keep K1470).keep K1512)
      have ne1558 : pv_1223 ≠ b1218 := (Ne.symm (Nat.ne_of_lt (Nat.lt_of_lt_of_le F1218_constructorArgumentsView.lt z1228)))
      have ne1559 : pv_1223 ≠ b1468 := (Nat.ne_of_lt (Nat.lt_of_lt_of_le (Nat.lt_of_lt_of_le F1253.lt (Nat.le_trans K1278.1 K1446.1)) (Nat.le_of_eq g1468.symm)))
      have F1560 := (((Fld.ext E1468 ((F1254.keep K1278 (ninS ne1558 nin0)).keep K1446 (ninS ne1558 nin0))).keep K1470 (ninS ne1559 nin0)).keep K1512 (ninS ne1559 nin0))
      have F1561 := (((Fld.ext E1468 ((F1255.keep K1278 (ninS ne1558 nin0)).keep K1446 (ninS ne1558 nin0))).keep K1470 (ninS ne1559 nin0)).keep K1512 (ninS ne1559 nin0))
      have F1562 := (((Fld.ext E1468 ((F1256.keep K1278 (ninS ne1558 nin0)).keep K1446 (ninS ne1558 nin0))).keep K1470 (ninS ne1559 nin0)).keep K1512 (ninS ne1559 nin0))
      have F1563 := (F1499.keep K1512)
      have ne1564 : ca_1472 ≠ b1468 := (Ne.symm (Nat.ne_of_lt (Nat.lt_of_lt_of_le F1468_constructorArgumentsView.lt z1477)))
      have F1565 := (F1500.keep K1512 (ninS ne1564 nin0))
      have F1566 := (F1501.keep K1512 (ninS ne1564 nin0))
      have F1567 := (F1502.keep K1512 (ninS ne1564 nin0))
      have F1568 := (F1503.keep K1512)
      have ne1569 : pv_1473 ≠ b1468 := (Ne.symm (Nat.ne_of_lt (Nat.lt_of_lt_of_le F1468_constructorArgumentsView.lt z1478)))
      have F1570 := (F1504.keep K1512 (ninS ne1569 nin0))
      have F1571 := (F1505.keep K1512 (ninS ne1569 nin0))
      have F1572 := (F1506.keep K1512 (ninS ne1569 nin0))
      have O1574 : Old Z n0 T1512.heap := O1513.keep K1512 (allS g1469 all0)
      obtain ⟨T1573, v1573, L1573, X1573, hQ1573, st1573⟩ := own_callV X1512 hx hZ (y := own_y_1073) (z := own_y_1073) hown (own_w hw 209 rfl) (own_w hw 210 rfl) (notFace_of_selects (args := #[]) (mvT hZ (own_w hw 212 rfl))) (own_w hw 212 rfl) (own_w hw 211 rfl) (own_w hw 28 rfl) (own_w hw 213 rfl) own_lm_615 (rmMN l Z a0 hw [] w0 w1 w2 w3 wl wle wd mAL mUL mUR mOA wcs kle kd hS b1218 b1468 ca_1222 pv_1223 wt_1224 rv_1271 ca_1472 pv_1473 wt_1474 rv_1275 T1512.heap n0 O1574 F1532 F1534 F1535 F1536 F1537 F1538 F1539 F1540 F1541 F1542 F1543 F1544 F1545 F1546 F1547 F1548 F1549 F1550 F1514 F1515 F1516 F1517 F1518 F1519 F1520 F1521 F1522 F1523 F1524 F1525 F1526 F1527 F1528 F1529 F1530 F1531 F1551 F1554 F1555 F1556 F1557 F1560 F1561 F1562 F1563 F1565 F1566 F1567 F1568 F1570 F1571 F1572 ref_1272 ref_1276 aw_1273 aw_1277) rfl F1532 own_pd_1079 (argsL := [(.ref b1468)]) (rest := []) rfl rfl (g := (mkF m 168 #[.val (.int k1), .val (.int k2), .val (.int k3), .val (.int fl), .val (.int ch), .val .null, .val (.ref b1218), .val (.int (1 : Int32)), .val rv_1267, .val rv_1271, .val rv_1275, .val rv_1271, .val (.ref b1468), .unset, .unset] [(.ref b1468), (.ref b1218)])) rfl (by rw [hml]; rfl) rfl (hb hby at_168) (W := 0) rfl (by decide) (by decide) (by decide) (by decide)
      obtain ⟨r_1575, u3_1576, rfl, M1573, K1573, z1577, F1578, F1579, eq_1580⟩ := hQ1573
      have N1573 := Fr.app N1512 M1573
      subst eq_1580
      refine own_st (fun u_ k_ => st1573 u_ k_) ?_
      show own_Go p e below _ (T1573.setTop (mkF m 171 #[.val (.int k1), .val (.int k2), .val (.int k3), .val (.int fl), .val (.int ch), .val .null, .val (.ref b1218), .val (.int (1 : Int32)), .val rv_1267, .val rv_1271, .val rv_1275, .val rv_1271, .val (.ref b1468), .unset, .unset] [(.ref r_1575)]))
      refine own_st (fun u_ k_ => XS.astore X1573.here hx rfl (hb hby at_171) rfl rfl (l' := #[.val (.int k1), .val (.int k2), .val (.int k3), .val (.int fl), .val (.int ch), .val .null, .val (.ref b1218), .val (.int (1 : Int32)), .val rv_1267, .val rv_1271, .val rv_1275, .val rv_1271, .val (.ref b1468), .val (.ref r_1575), .unset]) rfl k_) ?_
      refine own_st (fun u_ k_ => XS.aload X1573.here hx rfl (hb hby at_173) rfl ref_1272 k_) ?_
      show own_Go p e below _ (T1573.setTop (mkF m 175 #[.val (.int k1), .val (.int k2), .val (.int k3), .val (.int fl), .val (.int ch), .val .null, .val (.ref b1218), .val (.int (1 : Int32)), .val rv_1267, .val rv_1271, .val rv_1275, .val rv_1271, .val (.ref b1468), .val (.ref r_1575), .unset] [rv_1271]))
      rcases ref_cases ref_1272 with rfl | ⟨r1581, rfl⟩
      · show own_Go p e below _ (T1573.setTop (mkF m 175 #[.val (.int k1), .val (.int k2), .val (.int k3), .val (.int fl), .val (.int ch), .val .null, .val (.ref b1218), .val (.int (1 : Int32)), .val rv_1267, .val .null, .val rv_1275, .val .null, .val (.ref b1468), .val (.ref r_1575), .unset] [.null]))
        refine own_st (fun u_ k_ => XS.ifnullYes X1573.here hx rfl (pc0 := 175) (pc' := 183) rfl (hb hby at_175) rfl (by decide) (by decide) k_) ?_
        refine own_st (fun u_ k_ => XS.aload X1573.here hx rfl (hb hby at_183) rfl ref_1276 k_) ?_
        show own_Go p e below _ (T1573.setTop (mkF m 185 #[.val (.int k1), .val (.int k2), .val (.int k3), .val (.int fl), .val (.int ch), .val .null, .val (.ref b1218), .val (.int (1 : Int32)), .val rv_1267, .val .null, .val rv_1275, .val .null, .val (.ref b1468), .val (.ref r_1575), .unset] [rv_1275]))
        have O1583 : Old Z n0 T1573.heap := O1574.keep K1573 all0
        obtain ⟨T1582, v1582, L1582, X1582, hQ1582, st1582⟩ := own_callS X1573 hx hZ (y := own_y_576) hown (own_w hw 206 rfl) (own_w hw 207 rfl) (own_w hw 155 rfl) (own_w hw 208 rfl) own_lm_1075 (rmON l Z a0 hw [] w0 w1 w2 w3 wl wle wd mAL mUL mUR mOA wcs kle kd hS rv_1275 T1573.heap n0 O1583 ref_1276) rfl own_pd_1078 (argsL := [rv_1275]) (rest := []) rfl rfl (g := (mkF m 185 #[.val (.int k1), .val (.int k2), .val (.int k3), .val (.int fl), .val (.int ch), .val .null, .val (.ref b1218), .val (.int (1 : Int32)), .val rv_1267, .val .null, .val rv_1275, .val .null, .val (.ref b1468), .val (.ref r_1575), .unset] [rv_1275])) rfl (by rw [hml]; rfl) rfl (hb hby at_185) (W := 0) rfl (by decide) (by decide) (by decide) (by decide)
        obtain ⟨rfl, M1582, e1582⟩ := hQ1582
        have N1582 := Fr.app N1573 M1582
        refine own_st (fun u_ k_ => st1582 u_ k_) ?_
        show own_Go p e below _ (T1582.setTop (mkF m 188 #[.val (.int k1), .val (.int k2), .val (.int k3), .val (.int fl), .val (.int ch), .val .null, .val (.ref b1218), .val (.int (1 : Int32)), .val rv_1267, .val .null, .val rv_1275, .val .null, .val (.ref b1468), .val (.ref r_1575), .unset] [(own_or rv_1275 (.ref w0))]))
        refine own_st (fun u_ k_ => XS.astoreS X1582.here hx rfl (hb hby at_188) rfl (own_orR (w := .ref w0) ref_1276 rfl) (XT.cat1 (own_orR (w := .ref w0) ref_1276 rfl)) rfl (Or.inl rfl) k_) ?_
        refine own_st (fun u_ k_ => XS.iload X1582.here hx rfl (hb hby at_190) rfl k_) ?_
        show own_Go p e below _ (T1582.setTop (mkF m 192 #[.val (.int k1), .val (.int k2), .val (.int k3), .val (.int fl), .val (.int ch), .val .null, .val (.ref b1218), .val (.int (1 : Int32)), .val rv_1267, .val .null, .val rv_1275, .val .null, .val (.ref b1468), .val (.ref r_1575), .val (own_or rv_1275 (.ref w0))] [(.int (1 : Int32))]))
        refine own_st (fun u_ k_ => XS.ifNo X1582.here hx rfl (hb hby at_192) rfl (XT.i0_eq_f (by decide)) k_) ?_
        refine own_st (fun u_ k_ => XS.aload X1582.here hx rfl (hb hby at_195) rfl rfl k_) ?_
        show own_Go p e below _ (T1582.setTop (mkF m 197 #[.val (.int k1), .val (.int k2), .val (.int k3), .val (.int fl), .val (.int ch), .val .null, .val (.ref b1218), .val (.int (1 : Int32)), .val rv_1267, .val .null, .val rv_1275, .val .null, .val (.ref b1468), .val (.ref r_1575), .val (own_or rv_1275 (.ref w0))] [(.ref r_1575)]))
        obtain ⟨T1584, v1584, L1584, X1584, hQ1584, st1584⟩ := own_callV X1582 hx hZ (y := own_y_569) (z := own_y_569) hown (own_w hw 142 rfl) (own_w hw 143 rfl) (notFace_of_selects (args := #[]) (mvT hZ (own_w hw 145 rfl))) (own_w hw 145 rfl) (own_w hw 144 rfl) (own_w hw 28 rfl) (own_w hw 146 rfl) own_lm_615 (rmGW l Z a0 hw [] w0 w1 w2 w3 wl wle wd mAL mUL mUR mOA wcs kle kd hS r_1575 (own_or (.null : Value) rv_1275) T1573.heap n0 O1583 F1579 (own_orR ref_1272 ref_1276)) e1582 F1578 own_pd_1074 (argsL := []) (rest := []) rfl rfl (g := (mkF m 197 #[.val (.int k1), .val (.int k2), .val (.int k3), .val (.int fl), .val (.int ch), .val .null, .val (.ref b1218), .val (.int (1 : Int32)), .val rv_1267, .val .null, .val rv_1275, .val .null, .val (.ref b1468), .val (.ref r_1575), .val (own_or rv_1275 (.ref w0))] [(.ref r_1575)])) rfl (by rw [hml]; rfl) rfl (hb hby at_197) (W := 0) rfl (by decide) (by decide) (by decide) (by decide)
        obtain ⟨rfl, M1584, e1584⟩ := hQ1584
        have N1584 := Fr.app N1582 M1584
        refine own_st (fun u_ k_ => st1584 u_ k_) ?_
        show own_Go p e below _ (T1584.setTop (mkF m 200 #[.val (.int k1), .val (.int k2), .val (.int k3), .val (.int fl), .val (.int ch), .val .null, .val (.ref b1218), .val (.int (1 : Int32)), .val rv_1267, .val .null, .val rv_1275, .val .null, .val (.ref b1468), .val (.ref r_1575), .val (own_or rv_1275 (.ref w0))] [(own_or (own_or (.null : Value) rv_1275) (.ref w0))]))
        refine own_st (fun u_ k_ => XS.aload X1584.here hx rfl (hb hby at_200) rfl (own_orR (w := .ref w0) ref_1276 rfl) k_) ?_
        refine own_st (fun u_ k_ => XT.acmpNo X1584.here hx rfl (hb hby at_202) rfl (own_orR (w := .ref w0) (own_orR ref_1272 ref_1276) rfl) (own_orR (w := .ref w0) ref_1276 rfl) (XT.aa_ne_f rfl) k_) ?_
        show own_Go p e below _ (T1584.setTop (mkF m 205 #[.val (.int k1), .val (.int k2), .val (.int k3), .val (.int fl), .val (.int ch), .val .null, .val (.ref b1218), .val (.int (1 : Int32)), .val rv_1267, .val .null, .val rv_1275, .val .null, .val (.ref b1468), .val (.ref r_1575), .val (own_or rv_1275 (.ref w0))] []))
        refine own_st (fun u_ k_ => XS.iconst X1584.here hx rfl (hb hby at_205) k_) ?_
        refine own_st (fun u_ k_ => XS.goto X1584.here hx rfl (pc0 := 206) (pc' := 210) rfl (hb hby at_206) (by decide) (by decide) k_) ?_
        show own_Go p e below _ (T1584.setTop (mkF m 210 #[.val (.int k1), .val (.int k2), .val (.int k3), .val (.int fl), .val (.int ch), .val .null, .val (.ref b1218), .val (.int (1 : Int32)), .val rv_1267, .val .null, .val rv_1275, .val .null, .val (.ref b1468), .val (.ref r_1575), .val (own_or rv_1275 (.ref w0))] [(.int (1 : Int32))]))
        refine own_st (fun u_ k_ => XS.istore X1584.here hx rfl (hb hby at_210) rfl (l' := #[.val (.int k1), .val (.int k2), .val (.int k3), .val (.int fl), .val (.int ch), .val .null, .val (.ref b1218), .val (.int (1 : Int32)), .val rv_1267, .val .null, .val rv_1275, .val .null, .val (.ref b1468), .val (.ref r_1575), .val (own_or rv_1275 (.ref w0))]) rfl k_) ?_
        refine own_st (fun u_ k_ => XS.iload X1584.here hx rfl (hb hby at_212) rfl k_) ?_
        show own_Go p e below _ (T1584.setTop (mkF m 214 #[.val (.int k1), .val (.int k2), .val (.int k3), .val (.int fl), .val (.int ch), .val .null, .val (.ref b1218), .val (.int (1 : Int32)), .val rv_1267, .val .null, .val rv_1275, .val .null, .val (.ref b1468), .val (.ref r_1575), .val (own_or rv_1275 (.ref w0))] [(.int (1 : Int32))]))
        have K1585 : Keep h0 h1218 [] := (Keep.refl h0 []).ext E1218
        have z1587 : h0.size ≤ b1218 := Nat.le_trans (Nat.le_refl _) (Nat.le_of_eq g1218.symm)
        have K1586 : Keep h0 T1220.heap [] := K1585.trans K1220 (allS (Or.inr z1587) all0)
        have K1588 : Keep h0 T1278.heap [] := K1586.trans K1278 (allS (Or.inr z1587) all0)
        have K1589 : Keep h0 T1446.heap [] := K1588.trans K1446 (allS (Or.inr z1587) all0)
        have K1590 : Keep h0 h1468 [] := K1589.ext E1468
        have z1592 : h0.size ≤ b1468 := Nat.le_trans (Nat.le_trans (Nat.le_trans (Nat.le_trans E1218.1 K1220.1) K1278.1) K1446.1) (Nat.le_of_eq g1468.symm)
        have K1591 : Keep h0 T1470.heap [] := K1590.trans K1470 (allS (Or.inr z1592) all0)
        have K1593 : Keep h0 T1512.heap [] := K1591.trans K1512 (allS (Or.inr z1592) all0)
        have K1594 : Keep h0 T1573.heap [] := K1593.trans K1573 all0
        exact own_retX X1584 hx hlk hret rfl (Or.inl ⟨rfl, by simp, _, rfl⟩) (hb hby at_214) (by decide) (by decide) (show Qrm0 Z w0 w1 w2 w3 wl wle wd mAL mUL mUR mOA wcs kle kd k1 k2 k3 fl ch h0 n0 (some (.int (1 : Int32))) T1584.heap _ from (by rw [e1584]; exact ⟨rfl, N1584, K1594⟩))
      · show own_Go p e below _ (T1573.setTop (mkF m 175 #[.val (.int k1), .val (.int k2), .val (.int k3), .val (.int fl), .val (.int ch), .val .null, .val (.ref b1218), .val (.int (1 : Int32)), .val rv_1267, .val (.ref r1581), .val rv_1275, .val (.ref r1581), .val (.ref b1468), .val (.ref r_1575), .unset] [(.ref r1581)]))
        refine own_st (fun u_ k_ => XS.ifnullNo X1573.here hx rfl (hb hby at_175) rfl k_) ?_
        refine own_st (fun u_ k_ => XS.aload X1573.here hx rfl (hb hby at_178) rfl rfl k_) ?_
        show own_Go p e below _ (T1573.setTop (mkF m 180 #[.val (.int k1), .val (.int k2), .val (.int k3), .val (.int fl), .val (.int ch), .val .null, .val (.ref b1218), .val (.int (1 : Int32)), .val rv_1267, .val (.ref r1581), .val rv_1275, .val (.ref r1581), .val (.ref b1468), .val (.ref r_1575), .unset] [(.ref r1581)]))
        refine own_st (fun u_ k_ => XS.goto X1573.here hx rfl (pc0 := 180) (pc' := 188) rfl (hb hby at_180) (by decide) (by decide) k_) ?_
        refine own_st (fun u_ k_ => XS.astore X1573.here hx rfl (hb hby at_188) rfl rfl (l' := #[.val (.int k1), .val (.int k2), .val (.int k3), .val (.int fl), .val (.int ch), .val .null, .val (.ref b1218), .val (.int (1 : Int32)), .val rv_1267, .val (.ref r1581), .val rv_1275, .val (.ref r1581), .val (.ref b1468), .val (.ref r_1575), .val (.ref r1581)]) rfl k_) ?_
        show own_Go p e below _ (T1573.setTop (mkF m 190 #[.val (.int k1), .val (.int k2), .val (.int k3), .val (.int fl), .val (.int ch), .val .null, .val (.ref b1218), .val (.int (1 : Int32)), .val rv_1267, .val (.ref r1581), .val rv_1275, .val (.ref r1581), .val (.ref b1468), .val (.ref r_1575), .val (.ref r1581)] []))
        refine own_st (fun u_ k_ => XS.iload X1573.here hx rfl (hb hby at_190) rfl k_) ?_
        refine own_st (fun u_ k_ => XS.ifNo X1573.here hx rfl (hb hby at_192) rfl (XT.i0_eq_f (by decide)) k_) ?_
        show own_Go p e below _ (T1573.setTop (mkF m 195 #[.val (.int k1), .val (.int k2), .val (.int k3), .val (.int fl), .val (.int ch), .val .null, .val (.ref b1218), .val (.int (1 : Int32)), .val rv_1267, .val (.ref r1581), .val rv_1275, .val (.ref r1581), .val (.ref b1468), .val (.ref r_1575), .val (.ref r1581)] []))
        refine own_st (fun u_ k_ => XS.aload X1573.here hx rfl (hb hby at_195) rfl rfl k_) ?_
        have O1596 : Old Z n0 T1573.heap := O1574.keep K1573 all0
        obtain ⟨T1595, v1595, L1595, X1595, hQ1595, st1595⟩ := own_callV X1573 hx hZ (y := own_y_569) (z := own_y_569) hown (own_w hw 142 rfl) (own_w hw 143 rfl) (notFace_of_selects (args := #[]) (mvT hZ (own_w hw 145 rfl))) (own_w hw 145 rfl) (own_w hw 144 rfl) (own_w hw 28 rfl) (own_w hw 146 rfl) own_lm_615 (rmGW l Z a0 hw [] w0 w1 w2 w3 wl wle wd mAL mUL mUR mOA wcs kle kd hS r_1575 (own_or ((.ref r1581) : Value) rv_1275) T1573.heap n0 O1596 F1579 (own_orR ref_1272 ref_1276)) rfl F1578 own_pd_1074 (argsL := []) (rest := []) rfl rfl (g := (mkF m 197 #[.val (.int k1), .val (.int k2), .val (.int k3), .val (.int fl), .val (.int ch), .val .null, .val (.ref b1218), .val (.int (1 : Int32)), .val rv_1267, .val (.ref r1581), .val rv_1275, .val (.ref r1581), .val (.ref b1468), .val (.ref r_1575), .val (.ref r1581)] [(.ref r_1575)])) rfl (by rw [hml]; rfl) rfl (hb hby at_197) (W := 0) rfl (by decide) (by decide) (by decide) (by decide)
        obtain ⟨rfl, M1595, e1595⟩ := hQ1595
        have N1595 := Fr.app N1573 M1595
        refine own_st (fun u_ k_ => st1595 u_ k_) ?_
        show own_Go p e below _ (T1595.setTop (mkF m 200 #[.val (.int k1), .val (.int k2), .val (.int k3), .val (.int fl), .val (.int ch), .val .null, .val (.ref b1218), .val (.int (1 : Int32)), .val rv_1267, .val (.ref r1581), .val rv_1275, .val (.ref r1581), .val (.ref b1468), .val (.ref r_1575), .val (.ref r1581)] [(own_or (own_or ((.ref r1581) : Value) rv_1275) (.ref w0))]))
        refine own_st (fun u_ k_ => XS.aload X1595.here hx rfl (hb hby at_200) rfl rfl k_) ?_
        refine own_st (fun u_ k_ => XT.acmpNo X1595.here hx rfl (hb hby at_202) rfl (own_orR (w := .ref w0) (own_orR ref_1272 ref_1276) rfl) rfl (XT.aa_ne_f rfl) k_) ?_
        show own_Go p e below _ (T1595.setTop (mkF m 205 #[.val (.int k1), .val (.int k2), .val (.int k3), .val (.int fl), .val (.int ch), .val .null, .val (.ref b1218), .val (.int (1 : Int32)), .val rv_1267, .val (.ref r1581), .val rv_1275, .val (.ref r1581), .val (.ref b1468), .val (.ref r_1575), .val (.ref r1581)] []))
        refine own_st (fun u_ k_ => XS.iconst X1595.here hx rfl (hb hby at_205) k_) ?_
        refine own_st (fun u_ k_ => XS.goto X1595.here hx rfl (pc0 := 206) (pc' := 210) rfl (hb hby at_206) (by decide) (by decide) k_) ?_
        show own_Go p e below _ (T1595.setTop (mkF m 210 #[.val (.int k1), .val (.int k2), .val (.int k3), .val (.int fl), .val (.int ch), .val .null, .val (.ref b1218), .val (.int (1 : Int32)), .val rv_1267, .val (.ref r1581), .val rv_1275, .val (.ref r1581), .val (.ref b1468), .val (.ref r_1575), .val (.ref r1581)] [(.int (1 : Int32))]))
        refine own_st (fun u_ k_ => XS.istore X1595.here hx rfl (hb hby at_210) rfl (l' := #[.val (.int k1), .val (.int k2), .val (.int k3), .val (.int fl), .val (.int ch), .val .null, .val (.ref b1218), .val (.int (1 : Int32)), .val rv_1267, .val (.ref r1581), .val rv_1275, .val (.ref r1581), .val (.ref b1468), .val (.ref r_1575), .val (.ref r1581)]) rfl k_) ?_
        refine own_st (fun u_ k_ => XS.iload X1595.here hx rfl (hb hby at_212) rfl k_) ?_
        show own_Go p e below _ (T1595.setTop (mkF m 214 #[.val (.int k1), .val (.int k2), .val (.int k3), .val (.int fl), .val (.int ch), .val .null, .val (.ref b1218), .val (.int (1 : Int32)), .val rv_1267, .val (.ref r1581), .val rv_1275, .val (.ref r1581), .val (.ref b1468), .val (.ref r_1575), .val (.ref r1581)] [(.int (1 : Int32))]))
        have K1597 : Keep h0 h1218 [] := (Keep.refl h0 []).ext E1218
        have z1599 : h0.size ≤ b1218 := Nat.le_trans (Nat.le_refl _) (Nat.le_of_eq g1218.symm)
        have K1598 : Keep h0 T1220.heap [] := K1597.trans K1220 (allS (Or.inr z1599) all0)
        have K1600 : Keep h0 T1278.heap [] := K1598.trans K1278 (allS (Or.inr z1599) all0)
        have K1601 : Keep h0 T1446.heap [] := K1600.trans K1446 (allS (Or.inr z1599) all0)
        have K1602 : Keep h0 h1468 [] := K1601.ext E1468
        have z1604 : h0.size ≤ b1468 := Nat.le_trans (Nat.le_trans (Nat.le_trans (Nat.le_trans E1218.1 K1220.1) K1278.1) K1446.1) (Nat.le_of_eq g1468.symm)
        have K1603 : Keep h0 T1470.heap [] := K1602.trans K1470 (allS (Or.inr z1604) all0)
        have K1605 : Keep h0 T1512.heap [] := K1603.trans K1512 (allS (Or.inr z1604) all0)
        have K1606 : Keep h0 T1573.heap [] := K1605.trans K1573 all0
        exact own_retX X1595 hx hlk hret rfl (Or.inl ⟨rfl, by simp, _, rfl⟩) (hb hby at_214) (by decide) (by decide) (show Qrm0 Z w0 w1 w2 w3 wl wle wd mAL mUL mUR mOA wcs kle kd k1 k2 k3 fl ch h0 n0 (some (.int (1 : Int32))) T1595.heap _ from (by rw [e1595]; exact ⟨rfl, N1595, K1606⟩))
  · refine own_st (fun u_ k_ => XS.ifNo X0.here hx rfl (hb hby at_3) rfl (XT.i0_eq_f hc1217) k_) ?_
    show own_Go p e below _ (s₁.setTop (mkF m 6 #[.val (.int k1), .val (.int k2), .val (.int k3), .val (.int fl), .val (.int ch), .unset, .unset, .unset, .unset, .unset, .unset, .unset, .unset, .unset, .unset] []))
    refine own_st (fun u_ k_ => XS.iload X0.here hx rfl (hb hby at_6) rfl k_) ?_
    refine own_st (fun u_ k_ => XS.sipush X0.here hx rfl (hb hby at_8) k_) ?_
    show own_Go p e below _ (s₁.setTop (mkF m 11 #[.val (.int k1), .val (.int k2), .val (.int k3), .val (.int fl), .val (.int ch), .unset, .unset, .unset, .unset, .unset, .unset, .unset, .unset, .unset, .unset] [(.int (255 : Int32)), (.int ch)]))
    refine own_st (fun u_ k_ => XS.iand X0.here hx rfl (hb hby at_11) rfl k_) ?_
    refine own_st (fun u_ k_ => XS.i2c X0.here hx rfl (hb hby at_12) rfl k_) ?_
    show own_Go p e below _ (s₁.setTop (mkF m 13 #[.val (.int k1), .val (.int k2), .val (.int k3), .val (.int fl), .val (.int ch), .unset, .unset, .unset, .unset, .unset, .unset, .unset, .unset, .unset, .unset] [(.int ((ch &&& (255 : Int32)).toUInt32.toUInt16.toUInt32.toInt32))]))
    obtain ⟨T1607, v1607, L1607, X1607, hQ1607, st1607⟩ := own_callS X0 hx hZ (y := own_y_52) hown (own_w hw 0 rfl) (own_w hw 1 rfl) (own_w hw 2 rfl) (own_w hw 3 rfl) own_lm_49 (rmVO l Z a0 hw [] w0 w1 w2 w3 wl wle wd mAL mUL mUR mOA wcs kle kd hS ((ch &&& (255 : Int32)).toUInt32.toUInt16.toUInt32.toInt32) h0 n0 O0 (own_c255 ch)) e0 own_pd_1080 (argsL := [(.int ((ch &&& (255 : Int32)).toUInt32.toUInt16.toUInt32.toInt32))]) (rest := []) rfl rfl (g := (mkF m 13 #[.val (.int k1), .val (.int k2), .val (.int k3), .val (.int fl), .val (.int ch), .unset, .unset, .unset, .unset, .unset, .unset, .unset, .unset, .unset, .unset] [(.int ((ch &&& (255 : Int32)).toUInt32.toUInt16.toUInt32.toInt32))])) rfl (by rw [hml]; rfl) rfl (hb hby at_13) (W := 0) rfl (by decide) (by decide) (by decide) (by decide)
    obtain ⟨r_1608, rfl, M1607, K1607, z1609, F1610⟩ := hQ1607
    have N1607 := Fr.app N0 M1607
    refine own_st (fun u_ k_ => st1607 u_ k_) ?_
    show own_Go p e below _ (T1607.setTop (mkF m 16 #[.val (.int k1), .val (.int k2), .val (.int k3), .val (.int fl), .val (.int ch), .unset, .unset, .unset, .unset, .unset, .unset, .unset, .unset, .unset, .unset] [(.ref r_1608)]))
    refine own_st (fun u_ k_ => XS.goto X1607.here hx rfl (pc0 := 16) (pc' := 20) rfl (hb hby at_16) (by decide) (by decide) k_) ?_
    refine own_st (fun u_ k_ => XS.astore X1607.here hx rfl (hb hby at_20) rfl rfl (l' := #[.val (.int k1), .val (.int k2), .val (.int k3), .val (.int fl), .val (.int ch), .val (.ref r_1608), .unset, .unset, .unset, .unset, .unset, .unset, .unset, .unset, .unset]) rfl k_) ?_
    show own_Go p e below _ (T1607.setTop (mkF m 22 #[.val (.int k1), .val (.int k2), .val (.int k3), .val (.int fl), .val (.int ch), .val (.ref r_1608), .unset, .unset, .unset, .unset, .unset, .unset, .unset, .unset, .unset] []))
    obtain ⟨T1611, h1611, X1611, e1611, E1611, A1611, D1611, U1611, st1611⟩ := newO X1607 hx hZ hown (own_w hw 26 rfl) (own_w hw 27 rfl) (own_w hw 28 rfl) rfl (g := (mkF m 22 #[.val (.int k1), .val (.int k2), .val (.int k3), .val (.int fl), .val (.int ch), .val (.ref r_1608), .unset, .unset, .unset, .unset, .unset, .unset, .unset, .unset, .unset] [])) rfl (hb hby at_22) (by decide) (by decide)
    obtain ⟨b1611, g1611⟩ : ∃ z, z = T1607.heap.size := ⟨_, rfl⟩
    rw [← g1611] at A1611 D1611 U1611 st1611
    have F1611_qualifiers : Fld Z h1611 b1611 own_c_235 "qualifiers" "Ljava/util/List;" .null := D1611 (Or.inl (own_w hw 40 rfl)) (ty := (.object "java/util/List")) own_lm_104
    have F1611_dependsOn : Fld Z h1611 b1611 own_c_235 "dependsOn" "Ljava/util/List;" .null := D1611 (Or.inl (own_w hw 42 rfl)) (ty := (.object "java/util/List")) own_lm_104
    have F1611_constructorArguments : Fld Z h1611 b1611 own_c_235 "constructorArguments" "Ljava/util/List;" .null := D1611 (Or.inr (own_w hw 68 rfl)) (ty := (.object "java/util/List")) own_lm_104
    have F1611_constructorArgumentsView : Fld Z h1611 b1611 own_c_235 "constructorArgumentsView" "Ljava/util/List;" .null := D1611 (Or.inr (own_w hw 113 rfl)) (ty := (.object "java/util/List")) own_lm_104
    have F1611_propertyValues : Fld Z h1611 b1611 own_c_235 "propertyValues" "Ljava/util/List;" .null := D1611 (Or.inr (own_w hw 115 rfl)) (ty := (.object "java/util/List")) own_lm_104
    have F1611_propertyValuesView : Fld Z h1611 b1611 own_c_235 "propertyValuesView" "Ljava/util/List;" .null := D1611 (Or.inr (own_w hw 117 rfl)) (ty := (.object "java/util/List")) own_lm_104
    have F1611_watchers : Fld Z h1611 b1611 own_c_235 "watchers" "Ljava/util/List;" .null := D1611 (Or.inr (own_w hw 139 rfl)) (ty := (.object "java/util/List")) own_lm_104
    have F1611_className : Fld Z h1611 b1611 own_c_235 "className" "Ljava/lang/String;" .null := D1611 (Or.inl (own_w hw 141 rfl)) (ty := (.object "java/lang/String")) own_lm_319
    have F1611_autowire : Fld Z h1611 b1611 own_c_235 "autowire" own_c_559 .null := D1611 (Or.inl (own_w hw 148 rfl)) (ty := (.object "com/example/temanggung/temanggung/beans/factory/Autowire")) own_lm_379
    have F1611_value : Fld Z h1611 b1611 own_c_235 "value" own_c_560 .null := D1611 (Or.inl (own_w hw 221 rfl)) (ty := (.object "com/example/temanggung/temanggung/beans/factory/DefinedValue")) own_lm_396
    have F1611_abstractDefinition : Fld Z h1611 b1611 own_c_235 "abstractDefinition" "Z" (.int (0 : Int32)) := D1611 (Or.inl (own_w hw 223 rfl)) (ty := .boolean) own_lm_413
    have F1611_primary : Fld Z h1611 b1611 own_c_235 "primary" "Z" (.int (0 : Int32)) := D1611 (Or.inl (own_w hw 225 rfl)) (ty := .boolean) own_lm_413
    have F1611_scope : Fld Z h1611 b1611 own_c_235 "scope" "Ljava/lang/String;" .null := D1611 (Or.inl (own_w hw 227 rfl)) (ty := (.object "java/lang/String")) own_lm_319
    have F1611_lazyInit : Fld Z h1611 b1611 own_c_235 "lazyInit" "Ljava/lang/Boolean;" .null := D1611 (Or.inl (own_w hw 229 rfl)) (ty := (.object "java/lang/Boolean")) own_lm_462
    have F1611_factoryBeanName : Fld Z h1611 b1611 own_c_235 "factoryBeanName" "Ljava/lang/String;" .null := D1611 (Or.inl (own_w hw 233 rfl)) (ty := (.object "java/lang/String")) own_lm_319
    have F1611_factoryMethodName : Fld Z h1611 b1611 own_c_235 "factoryMethodName" "Ljava/lang/String;" .null := D1611 (Or.inl (own_w hw 235 rfl)) (ty := (.object "java/lang/String")) own_lm_319
    have F1611_initMethodName : Fld Z h1611 b1611 own_c_235 "initMethodName" "Ljava/lang/String;" .null := D1611 (Or.inl (own_w hw 324 rfl)) (ty := (.object "java/lang/String")) own_lm_319
    have F1611_destroyMethodName : Fld Z h1611 b1611 own_c_235 "destroyMethodName" "Ljava/lang/String;" .null := D1611 (Or.inl (own_w hw 326 rfl)) (ty := (.object "java/lang/String")) own_lm_319
    have F1611_origin : Fld Z h1611 b1611 own_c_235 "origin" "Ljava/lang/String;" .null := D1611 (Or.inl (own_w hw 328 rfl)) (ty := (.object "java/lang/String")) own_lm_319
    refine own_st (fun u_ k_ => st1611 u_ k_) ?_
    show own_Go p e below _ (T1611.setTop (mkF m 25 #[.val (.int k1), .val (.int k2), .val (.int k3), .val (.int fl), .val (.int ch), .val (.ref r_1608), .unset, .unset, .unset, .unset, .unset, .unset, .unset, .unset, .unset] [(.ref b1611)]))
    refine own_st (fun u_ k_ => XS.dup X1611.here hx rfl (hb hby at_25) rfl rfl k_) ?_
    refine own_st (fun u_ k_ => XS.aload X1611.here hx rfl (hb hby at_26) rfl rfl k_) ?_
    show own_Go p e below _ (T1611.setTop (mkF m 28 #[.val (.int k1), .val (.int k2), .val (.int k3), .val (.int fl), .val (.int ch), .val (.ref r_1608), .unset, .unset, .unset, .unset, .unset, .unset, .unset, .unset, .unset] [(.ref r_1608), (.ref b1611), (.ref b1611)]))
    have O1613 : Old Z n0 T1607.heap := O0.keep K1607 all0
    have g1612 : n0 ≤ b1611 := Nat.le_trans (own_nl O1613) (Nat.le_of_eq g1611.symm)
    have O1615 : Old Z n0 h1611 := O1613.ext E1611
    obtain ⟨T1614, v1614, L1614, X1614, hQ1614, st1614⟩ := own_callN X1611 hx hZ (y := own_y_558) rfl hown (own_w hw 29 rfl) (own_w hw 30 rfl) (own_w hw 28 rfl) (own_w hw 31 rfl) own_lm_615 (rmBI l Z a0 hw [] w0 w1 w2 w3 wl wle wd mAL mUL mUR mOA wcs kle kd hS b1611 ((.ref r_1608) : Value) h1611 n0 O1615 g1612 rfl A1611 F1611_qualifiers F1611_dependsOn F1611_constructorArguments F1611_constructorArgumentsView F1611_propertyValues F1611_propertyValuesView F1611_watchers F1611_className F1611_autowire F1611_value F1611_abstractDefinition F1611_primary F1611_scope F1611_lazyInit F1611_factoryBeanName F1611_factoryMethodName F1611_initMethodName F1611_destroyMethodName F1611_origin) e1611 own_pd_799 (a := b1611) (argsL := [(.ref r_1608)]) (rest := [(.ref b1611)]) rfl rfl (g := (mkF m 28 #[.val (.int k1), .val (.int k2), .val (.int k3), .val (.int fl), .val (.int ch), .val (.ref r_1608), .unset, .unset, .unset, .unset, .unset, .unset, .unset, .unset, .unset] [(.ref r_1608), (.ref b1611), (.ref b1611)])) rfl (by rw [hml]; rfl) rfl (hb hby at_28) (W := 1) rfl (by decide) (by decide) (by decide) (by decide)
    obtain ⟨ca_1616, pv_1617, wt_1618, ar_1619, kr_1620, rfl, M1614, K1614, z1621, z1622, z1623, z1624, F1625, F1626, F1627, F1628, F1629, F1630, F1631, F1632, F1633, F1634, F1635, F1636, F1637, F1638, F1639, F1640, F1641, F1642, F1643, F1644, F1645, F1646, F1647, F1648, F1649, F1650, F1651, F1652, F1653, F1654, ne_1655⟩ := hQ1614
    have N1614 := Fr.app N1607 M1614
    refine own_st (fun u_ k_ => st1614 u_ k_) ?_
    show own_Go p e below _ (T1614.setTop (mkF m 31 #[.val (.int k1), .val (.int k2), .val (.int k3), .val (.int fl), .val (.int ch), .val (.ref r_1608), .unset, .unset, .unset, .unset, .unset, .unset, .unset, .unset, .unset] [(.ref b1611)]))
    refine own_st (fun u_ k_ => XS.astore X1614.here hx rfl (hb hby at_31) rfl rfl (l' := #[.val (.int k1), .val (.int k2), .val (.int k3), .val (.int fl), .val (.int ch), .val (.ref r_1608), .val (.ref b1611), .unset, .unset, .unset, .unset, .unset, .unset, .unset, .unset]) rfl k_) ?_
    refine own_st (fun u_ k_ => XS.aload X1614.here hx rfl (hb hby at_33) rfl rfl k_) ?_
    show own_Go p e below _ (T1614.setTop (mkF m 35 #[.val (.int k1), .val (.int k2), .val (.int k3), .val (.int fl), .val (.int ch), .val (.ref r_1608), .val (.ref b1611), .unset, .unset, .unset, .unset, .unset, .unset, .unset, .unset] [(.ref b1611)]))
    have O1657 : Old Z n0 T1614.heap := O1615.keep K1614 (allS g1612 all0)
    obtain ⟨T1656, v1656, L1656, X1656, hQ1656, st1656⟩ := own_callV X1614 hx hZ (y := own_y_569) (z := own_y_569) hown (own_w hw 142 rfl) (own_w hw 143 rfl) (notFace_of_selects (args := #[]) (mvT hZ (own_w hw 145 rfl))) (own_w hw 145 rfl) (own_w hw 144 rfl) (own_w hw 28 rfl) (own_w hw 146 rfl) own_lm_615 (rmGW l Z a0 hw [] w0 w1 w2 w3 wl wle wd mAL mUL mUR mOA wcs kle kd hS b1611 (.null : Value) T1614.heap n0 O1657 F1632 rfl) rfl F1625 own_pd_1074 (argsL := []) (rest := []) rfl rfl (g := (mkF m 35 #[.val (.int k1), .val (.int k2), .val (.int k3), .val (.int fl), .val (.int ch), .val (.ref r_1608), .val (.ref b1611), .unset, .unset, .unset, .unset, .unset, .unset, .unset, .unset] [(.ref b1611)])) rfl (by rw [hml]; rfl) rfl (hb hby at_35) (W := 0) rfl (by decide) (by decide) (by decide) (by decide)
    obtain ⟨rfl, M1656, e1656⟩ := hQ1656
    have N1656 := Fr.app N1614 M1656
    refine own_st (fun u_ k_ => st1656 u_ k_) ?_
    show own_Go p e below _ (T1656.setTop (mkF m 38 #[.val (.int k1), .val (.int k2), .val (.int k3), .val (.int fl), .val (.int ch), .val (.ref r_1608), .val (.ref b1611), .unset, .unset, .unset, .unset, .unset, .unset, .unset, .unset] [(own_or (.null : Value) (.ref w0))]))
    have F1658 := Sta.ext O1657.2 hS.1
    obtain ⟨T1659, X1659, e1659, st1659⟩ := getS2 X1656 hx hZ hown (host := "") (Or.inl (own_w hw 152 rfl)) Via.refl e1656 F1658 (g := (mkF m 38 #[.val (.int k1), .val (.int k2), .val (.int k3), .val (.int fl), .val (.int ch), .val (.ref r_1608), .val (.ref b1611), .unset, .unset, .unset, .unset, .unset, .unset, .unset, .unset] [(own_or (.null : Value) (.ref w0))])) rfl (hb hby at_38)
    refine own_st (fun u_ k_ => st1659 u_ k_) ?_
    show own_Go p e below _ (T1659.setTop (mkF m 41 #[.val (.int k1), .val (.int k2), .val (.int k3), .val (.int fl), .val (.int ch), .val (.ref r_1608), .val (.ref b1611), .unset, .unset, .unset, .unset, .unset, .unset, .unset, .unset] [(.ref w0), (own_or (.null : Value) (.ref w0))]))
    refine own_st (fun u_ k_ => XT.acmpNo X1659.here hx rfl (hb hby at_41) rfl (own_orR (w := .ref w0) rfl rfl) rfl (XT.aa_ne_f rfl) k_) ?_
    show own_Go p e below _ (T1659.setTop (mkF m 44 #[.val (.int k1), .val (.int k2), .val (.int k3), .val (.int fl), .val (.int ch), .val (.ref r_1608), .val (.ref b1611), .unset, .unset, .unset, .unset, .unset, .unset, .unset, .unset] []))
    refine own_st (fun u_ k_ => XS.iconst X1659.here hx rfl (hb hby at_44) k_) ?_
    refine own_st (fun u_ k_ => XS.goto X1659.here hx rfl (pc0 := 45) (pc' := 49) rfl (hb hby at_45) (by decide) (by decide) k_) ?_
    show own_Go p e below _ (T1659.setTop (mkF m 49 #[.val (.int k1), .val (.int k2), .val (.int k3), .val (.int fl), .val (.int ch), .val (.ref r_1608), .val (.ref b1611), .unset, .unset, .unset, .unset, .unset, .unset, .unset, .unset] [(.int (1 : Int32))]))
    refine own_st (fun u_ k_ => XS.istore X1659.here hx rfl (hb hby at_49) rfl (l' := #[.val (.int k1), .val (.int k2), .val (.int k3), .val (.int fl), .val (.int ch), .val (.ref r_1608), .val (.ref b1611), .val (.int (1 : Int32)), .unset, .unset, .unset, .unset, .unset, .unset, .unset]) rfl k_) ?_
    refine own_st (fun u_ k_ => XS.iloadN X1659.here hx rfl (hb hby at_51) rfl k_) ?_
    show own_Go p e below _ (T1659.setTop (mkF m 52 #[.val (.int k1), .val (.int k2), .val (.int k3), .val (.int fl), .val (.int ch), .val (.ref r_1608), .val (.ref b1611), .val (.int (1 : Int32)), .unset, .unset, .unset, .unset, .unset, .unset, .unset] [(.int k1)]))
    obtain ⟨T1660, v1660, L1660, X1660, hQ1660, st1660⟩ := own_callS X1659 hx hZ (y := own_y_605) hown (own_w hw 153 rfl) (own_w hw 154 rfl) (own_w hw 155 rfl) (own_w hw 156 rfl) own_lm_1075 (rmMO l Z a0 hw [] w0 w1 w2 w3 wl wle wd mAL mUL mUR mOA wcs kle kd hS k1 T1614.heap n0 O1657 ) e1659 own_pd_1076 (argsL := [(.int k1)]) (rest := []) rfl rfl (g := (mkF m 52 #[.val (.int k1), .val (.int k2), .val (.int k3), .val (.int fl), .val (.int ch), .val (.ref r_1608), .val (.ref b1611), .val (.int (1 : Int32)), .unset, .unset, .unset, .unset, .unset, .unset, .unset] [(.int k1)])) rfl (by rw [hml]; rfl) rfl (hb hby at_52) (W := 0) rfl (by decide) (by decide) (by decide) (by decide)
    obtain ⟨rv_1661, rfl, M1660, e1660, ref_1662, aw_1663⟩ := hQ1660
    have N1660 := Fr.app N1656 M1660
    refine own_st (fun u_ k_ => st1660 u_ k_) ?_
    show own_Go p e below _ (T1660.setTop (mkF m 55 #[.val (.int k1), .val (.int k2), .val (.int k3), .val (.int fl), .val (.int ch), .val (.ref r_1608), .val (.ref b1611), .val (.int (1 : Int32)), .unset, .unset, .unset, .unset, .unset, .unset, .unset] [rv_1661]))
    refine own_st (fun u_ k_ => XS.astoreS X1660.here hx rfl (hb hby at_55) rfl ref_1662 (XT.cat1 ref_1662) rfl (Or.inl rfl) k_) ?_
    refine own_st (fun u_ k_ => XS.iloadN X1660.here hx rfl (hb hby at_57) rfl k_) ?_
    show own_Go p e below _ (T1660.setTop (mkF m 58 #[.val (.int k1), .val (.int k2), .val (.int k3), .val (.int fl), .val (.int ch), .val (.ref r_1608), .val (.ref b1611), .val (.int (1 : Int32)), .val rv_1661, .unset, .unset, .unset, .unset, .unset, .unset] [(.int k2)]))
    obtain ⟨T1664, v1664, L1664, X1664, hQ1664, st1664⟩ := own_callS X1660 hx hZ (y := own_y_605) hown (own_w hw 153 rfl) (own_w hw 154 rfl) (own_w hw 155 rfl) (own_w hw 156 rfl) own_lm_1075 (rmMO l Z a0 hw [] w0 w1 w2 w3 wl wle wd mAL mUL mUR mOA wcs kle kd hS k2 T1614.heap n0 O1657 ) e1660 own_pd_1076 (argsL := [(.int k2)]) (rest := []) rfl rfl (g := (mkF m 58 #[.val (.int k1), .val (.int k2), .val (.int k3), .val (.int fl), .val (.int ch), .val (.ref r_1608), .val (.ref b1611), .val (.int (1 : Int32)), .val rv_1661, .unset, .unset, .unset, .unset, .unset, .unset] [(.int k2)])) rfl (by rw [hml]; rfl) rfl (hb hby at_58) (W := 0) rfl (by decide) (by decide) (by decide) (by decide)
    obtain ⟨rv_1665, rfl, M1664, e1664, ref_1666, aw_1667⟩ := hQ1664
    have N1664 := Fr.app N1660 M1664
    refine own_st (fun u_ k_ => st1664 u_ k_) ?_
    show own_Go p e below _ (T1664.setTop (mkF m 61 #[.val (.int k1), .val (.int k2), .val (.int k3), .val (.int fl), .val (.int ch), .val (.ref r_1608), .val (.ref b1611), .val (.int (1 : Int32)), .val rv_1661, .unset, .unset, .unset, .unset, .unset, .unset] [rv_1665]))
    refine own_st (fun u_ k_ => XS.astoreS X1664.here hx rfl (hb hby at_61) rfl ref_1666 (XT.cat1 ref_1666) rfl (Or.inl rfl) k_) ?_
    refine own_st (fun u_ k_ => XS.iloadN X1664.here hx rfl (hb hby at_63) rfl k_) ?_
    show own_Go p e below _ (T1664.setTop (mkF m 64 #[.val (.int k1), .val (.int k2), .val (.int k3), .val (.int fl), .val (.int ch), .val (.ref r_1608), .val (.ref b1611), .val (.int (1 : Int32)), .val rv_1661, .val rv_1665, .unset, .unset, .unset, .unset, .unset] [(.int k3)]))
    obtain ⟨T1668, v1668, L1668, X1668, hQ1668, st1668⟩ := own_callS X1664 hx hZ (y := own_y_605) hown (own_w hw 153 rfl) (own_w hw 154 rfl) (own_w hw 155 rfl) (own_w hw 156 rfl) own_lm_1075 (rmMO l Z a0 hw [] w0 w1 w2 w3 wl wle wd mAL mUL mUR mOA wcs kle kd hS k3 T1614.heap n0 O1657 ) e1664 own_pd_1076 (argsL := [(.int k3)]) (rest := []) rfl rfl (g := (mkF m 64 #[.val (.int k1), .val (.int k2), .val (.int k3), .val (.int fl), .val (.int ch), .val (.ref r_1608), .val (.ref b1611), .val (.int (1 : Int32)), .val rv_1661, .val rv_1665, .unset, .unset, .unset, .unset, .unset] [(.int k3)])) rfl (by rw [hml]; rfl) rfl (hb hby at_64) (W := 0) rfl (by decide) (by decide) (by decide) (by decide)
    obtain ⟨rv_1669, rfl, M1668, e1668, ref_1670, aw_1671⟩ := hQ1668
    have N1668 := Fr.app N1664 M1668
    refine own_st (fun u_ k_ => st1668 u_ k_) ?_
    show own_Go p e below _ (T1668.setTop (mkF m 67 #[.val (.int k1), .val (.int k2), .val (.int k3), .val (.int fl), .val (.int ch), .val (.ref r_1608), .val (.ref b1611), .val (.int (1 : Int32)), .val rv_1661, .val rv_1665, .unset, .unset, .unset, .unset, .unset] [rv_1669]))
    refine own_st (fun u_ k_ => XS.astoreS X1668.here hx rfl (hb hby at_67) rfl ref_1670 (XT.cat1 ref_1670) rfl (Or.inl rfl) k_) ?_
    refine own_st (fun u_ k_ => XS.aload X1668.here hx rfl (hb hby at_69) rfl rfl k_) ?_
    show own_Go p e below _ (T1668.setTop (mkF m 71 #[.val (.int k1), .val (.int k2), .val (.int k3), .val (.int fl), .val (.int ch), .val (.ref r_1608), .val (.ref b1611), .val (.int (1 : Int32)), .val rv_1661, .val rv_1665, .val rv_1669, .unset, .unset, .unset, .unset] [(.ref b1611)]))
    refine own_st (fun u_ k_ => XS.aload X1668.here hx rfl (hb hby at_71) rfl ref_1662 k_) ?_
    obtain ⟨T1672, v1672, L1672, X1672, hQ1672, st1672⟩ := own_callV X1668 hx hZ (y := own_y_647) (z := own_y_647) hown (own_w hw 162 rfl) (own_w hw 163 rfl) (notFace_of_selects (args := #[]) (mvT hZ (own_w hw 165 rfl))) (own_w hw 165 rfl) (own_w hw 164 rfl) (own_w hw 28 rfl) (own_w hw 166 rfl) own_lm_615 (rmSW l Z a0 hw [] w0 w1 w2 w3 wl wle wd mAL mUL mUR mOA wcs kle kd hS b1611 rv_1661 (.null : Value) ca_1616 pv_1617 wt_1618 ar_1619 kr_1620 ((.ref r_1608) : Value) T1614.heap n0 O1657 g1612 ref_1662 F1625 F1626 F1627 F1628 F1629 F1630 F1631 F1632 F1633 F1634 F1635 F1636 F1637 F1638 F1639 F1640 F1641 F1642 F1651 F1652 F1653 F1654 rfl) e1668 F1625 own_pd_1077 (argsL := [rv_1661]) (rest := []) rfl rfl (g := (mkF m 73 #[.val (.int k1), .val (.int k2), .val (.int k3), .val (.int fl), .val (.int ch), .val (.ref r_1608), .val (.ref b1611), .val (.int (1 : Int32)), .val rv_1661, .val rv_1665, .val rv_1669, .unset, .unset, .unset, .unset] [rv_1661, (.ref b1611)])) rfl (by rw [hml]; rfl) rfl (hb hby at_73) (W := 0) rfl (by decide) (by decide) (by decide) (by decide)
    obtain ⟨rfl, M1672, K1672, F1673, F1674, F1675, F1676, F1677, F1678, F1679, F1680, F1681, F1682, F1683, F1684, F1685, F1686, F1687, F1688, F1689, F1690⟩ := hQ1672
    have N1672 := Fr.app N1668 M1672
    refine own_st (fun u_ k_ => st1672 u_ k_) ?_
    show own_Go p e below _ (T1672.setTop (mkF m 76 #[.val (.int k1), .val (.int k2), .val (.int k3), .val (.int fl), .val (.int ch), .val (.ref r_1608), .val (.ref b1611), .val (.int (1 : Int32)), .val rv_1661, .val rv_1665, .val rv_1669, .unset, .unset, .unset, .unset] []))
    refine own_st (fun u_ k_ => XS.iload X1672.here hx rfl (hb hby at_76) rfl k_) ?_
    refine own_st (fun u_ k_ => XS.ifNo X1672.here hx rfl (hb hby at_78) rfl (XT.i0_eq_f (by decide)) k_) ?_
    show own_Go p e below _ (T1672.setTop (mkF m 81 #[.val (.int k1), .val (.int k2), .val (.int k3), .val (.int fl), .val (.int ch), .val (.ref r_1608), .val (.ref b1611), .val (.int (1 : Int32)), .val rv_1661, .val rv_1665, .val rv_1669, .unset, .unset, .unset, .unset] []))
    refine own_st (fun u_ k_ => XS.aload X1672.here hx rfl (hb hby at_81) rfl rfl k_) ?_
    have O1692 : Old Z n0 T1672.heap := O1657.keep K1672 (allS g1612 all0)
    obtain ⟨T1691, v1691, L1691, X1691, hQ1691, st1691⟩ := own_callV X1672 hx hZ (y := own_y_569) (z := own_y_569) hown (own_w hw 142 rfl) (own_w hw 143 rfl) (notFace_of_selects (args := #[]) (mvT hZ (own_w hw 145 rfl))) (own_w hw 145 rfl) (own_w hw 144 rfl) (own_w hw 28 rfl) (own_w hw 146 rfl) own_lm_615 (rmGW l Z a0 hw [] w0 w1 w2 w3 wl wle wd mAL mUL mUR mOA wcs kle kd hS b1611 rv_1661 T1672.heap n0 O1692 F1680 ref_1662) rfl F1673 own_pd_1074 (argsL := []) (rest := []) rfl rfl (g := (mkF m 83 #[.val (.int k1), .val (.int k2), .val (.int k3), .val (.int fl), .val (.int ch), .val (.ref r_1608), .val (.ref b1611), .val (.int (1 : Int32)), .val rv_1661, .val rv_1665, .val rv_1669, .unset, .unset, .unset, .unset] [(.ref b1611)])) rfl (by rw [hml]; rfl) rfl (hb hby at_83) (W := 0) rfl (by decide) (by decide) (by decide) (by decide)
    obtain ⟨rfl, M1691, e1691⟩ := hQ1691
    have N1691 := Fr.app N1672 M1691
    refine own_st (fun u_ k_ => st1691 u_ k_) ?_
    show own_Go p e below _ (T1691.setTop (mkF m 86 #[.val (.int k1), .val (.int k2), .val (.int k3), .val (.int fl), .val (.int ch), .val (.ref r_1608), .val (.ref b1611), .val (.int (1 : Int32)), .val rv_1661, .val rv_1665, .val rv_1669, .unset, .unset, .unset, .unset] [(own_or rv_1661 (.ref w0))]))
    refine own_st (fun u_ k_ => XS.aload X1691.here hx rfl (hb hby at_86) rfl ref_1662 k_) ?_
    obtain ⟨T1693, v1693, L1693, X1693, hQ1693, st1693⟩ := own_callS X1691 hx hZ (y := own_y_576) hown (own_w hw 206 rfl) (own_w hw 207 rfl) (own_w hw 155 rfl) (own_w hw 208 rfl) own_lm_1075 (rmON l Z a0 hw [] w0 w1 w2 w3 wl wle wd mAL mUL mUR mOA wcs kle kd hS rv_1661 T1672.heap n0 O1692 ref_1662) e1691 own_pd_1078 (argsL := [rv_1661]) (rest := [(own_or rv_1661 (.ref w0))]) rfl rfl (g := (mkF m 88 #[.val (.int k1), .val (.int k2), .val (.int k3), .val (.int fl), .val (.int ch), .val (.ref r_1608), .val (.ref b1611), .val (.int (1 : Int32)), .val rv_1661, .val rv_1665, .val rv_1669, .unset, .unset, .unset, .unset] [rv_1661, (own_or rv_1661 (.ref w0))])) rfl (by rw [hml]; rfl) rfl (hb hby at_88) (W := 1) (by show 2 * 0 + _ = _; simp only [List.map, List.sum_cons, List.sum_nil, XT.cat1 (own_orR (w := .ref w0) ref_1662 rfl)]; rfl) (by decide) (by decide) (by decide) (by decide)
    obtain ⟨rfl, M1693, e1693⟩ := hQ1693
    have N1693 := Fr.app N1691 M1693
    refine own_st (fun u_ k_ => st1693 u_ k_) ?_
    show own_Go p e below _ (T1693.setTop (mkF m 91 #[.val (.int k1), .val (.int k2), .val (.int k3), .val (.int fl), .val (.int ch), .val (.ref r_1608), .val (.ref b1611), .val (.int (1 : Int32)), .val rv_1661, .val rv_1665, .val rv_1669, .unset, .unset, .unset, .unset] [(own_or rv_1661 (.ref w0)), (own_or rv_1661 (.ref w0))]))
    refine own_st (fun u_ k_ => XT.acmpNo X1693.here hx rfl (hb hby at_91) rfl (own_orR (w := .ref w0) ref_1662 rfl) (own_orR (w := .ref w0) ref_1662 rfl) (XT.aa_ne_f rfl) k_) ?_
    show own_Go p e below _ (T1693.setTop (mkF m 94 #[.val (.int k1), .val (.int k2), .val (.int k3), .val (.int fl), .val (.int ch), .val (.ref r_1608), .val (.ref b1611), .val (.int (1 : Int32)), .val rv_1661, .val rv_1665, .val rv_1669, .unset, .unset, .unset, .unset] []))
    refine own_st (fun u_ k_ => XS.iconst X1693.here hx rfl (hb hby at_94) k_) ?_
    refine own_st (fun u_ k_ => XS.goto X1693.here hx rfl (pc0 := 95) (pc' := 99) rfl (hb hby at_95) (by decide) (by decide) k_) ?_
    show own_Go p e below _ (T1693.setTop (mkF m 99 #[.val (.int k1), .val (.int k2), .val (.int k3), .val (.int fl), .val (.int ch), .val (.ref r_1608), .val (.ref b1611), .val (.int (1 : Int32)), .val rv_1661, .val rv_1665, .val rv_1669, .unset, .unset, .unset, .unset] [(.int (1 : Int32))]))
    refine own_st (fun u_ k_ => XS.istore X1693.here hx rfl (hb hby at_99) rfl (l' := #[.val (.int k1), .val (.int k2), .val (.int k3), .val (.int fl), .val (.int ch), .val (.ref r_1608), .val (.ref b1611), .val (.int (1 : Int32)), .val rv_1661, .val rv_1665, .val rv_1669, .unset, .unset, .unset, .unset]) rfl k_) ?_
    refine own_st (fun u_ k_ => XS.aload X1693.here hx rfl (hb hby at_101) rfl ref_1662 k_) ?_
    show own_Go p e below _ (T1693.setTop (mkF m 103 #[.val (.int k1), .val (.int k2), .val (.int k3), .val (.int fl), .val (.int ch), .val (.ref r_1608), .val (.ref b1611), .val (.int (1 : Int32)), .val rv_1661, .val rv_1665, .val rv_1669, .unset, .unset, .unset, .unset] [rv_1661]))
    refine own_st (fun u_ k_ => XS.astoreS X1693.here hx rfl (hb hby at_103) rfl ref_1662 (XT.cat1 ref_1662) rfl (Or.inl rfl) k_) ?_
    refine own_st (fun u_ k_ => XS.iloadN X1693.here hx rfl (hb hby at_105) rfl k_) ?_
    show own_Go p e below _ (T1693.setTop (mkF m 106 #[.val (.int k1), .val (.int k2), .val (.int k3), .val (.int fl), .val (.int ch), .val (.ref r_1608), .val (.ref b1611), .val (.int (1 : Int32)), .val rv_1661, .val rv_1665, .val rv_1669, .val rv_1661, .unset, .unset, .unset] [(.int fl)]))
    refine own_st (fun u_ k_ => XS.iconst X1693.here hx rfl (hb hby at_106) k_) ?_
    refine own_st (fun u_ k_ => XS.iand X1693.here hx rfl (hb hby at_107) rfl k_) ?_
    show own_Go p e below _ (T1693.setTop (mkF m 108 #[.val (.int k1), .val (.int k2), .val (.int k3), .val (.int fl), .val (.int ch), .val (.ref r_1608), .val (.ref b1611), .val (.int (1 : Int32)), .val rv_1661, .val rv_1665, .val rv_1669, .val rv_1661, .unset, .unset, .unset] [(.int (fl &&& (2 : Int32)))]))
    by_cases hc1694 : (fl &&& (2 : Int32)) = (0 : Int32)
    · refine own_st (fun u_ k_ => XS.ifYes X1693.here hx rfl (pc0 := 108) (pc' := 122) rfl (hb hby at_108) rfl (XT.i0_eq_t hc1694) (by decide) (by decide) k_) ?_
      refine own_st (fun u_ k_ => XS.iload X1693.here hx rfl (hb hby at_122) rfl k_) ?_
      show own_Go p e below _ (T1693.setTop (mkF m 124 #[.val (.int k1), .val (.int k2), .val (.int k3), .val (.int fl), .val (.int ch), .val (.ref r_1608), .val (.ref b1611), .val (.int (1 : Int32)), .val rv_1661, .val rv_1665, .val rv_1669, .val rv_1661, .unset, .unset, .unset] [(.int (1 : Int32))]))
      refine own_st (fun u_ k_ => XS.ifNo X1693.here hx rfl (hb hby at_124) rfl (XT.i0_eq_f (by decide)) k_) ?_
      refine own_st (fun u_ k_ => XS.aload X1693.here hx rfl (hb hby at_127) rfl rfl k_) ?_
      show own_Go p e below _ (T1693.setTop (mkF m 129 #[.val (.int k1), .val (.int k2), .val (.int k3), .val (.int fl), .val (.int ch), .val (.ref r_1608), .val (.ref b1611), .val (.int (1 : Int32)), .val rv_1661, .val rv_1665, .val rv_1669, .val rv_1661, .unset, .unset, .unset] [(.ref b1611)]))
      obtain ⟨T1695, v1695, L1695, X1695, hQ1695, st1695⟩ := own_callV X1693 hx hZ (y := own_y_569) (z := own_y_569) hown (own_w hw 142 rfl) (own_w hw 143 rfl) (notFace_of_selects (args := #[]) (mvT hZ (own_w hw 145 rfl))) (own_w hw 145 rfl) (own_w hw 144 rfl) (own_w hw 28 rfl) (own_w hw 146 rfl) own_lm_615 (rmGW l Z a0 hw [] w0 w1 w2 w3 wl wle wd mAL mUL mUR mOA wcs kle kd hS b1611 rv_1661 T1672.heap n0 O1692 F1680 ref_1662) e1693 F1673 own_pd_1074 (argsL := []) (rest := []) rfl rfl (g := (mkF m 129 #[.val (.int k1), .val (.int k2), .val (.int k3), .val (.int fl), .val (.int ch), .val (.ref r_1608), .val (.ref b1611), .val (.int (1 : Int32)), .val rv_1661, .val rv_1665, .val rv_1669, .val rv_1661, .unset, .unset, .unset] [(.ref b1611)])) rfl (by rw [hml]; rfl) rfl (hb hby at_129) (W := 0) rfl (by decide) (by decide) (by decide) (by decide)
      obtain ⟨rfl, M1695, e1695⟩ := hQ1695
      have N1695 := Fr.app N1693 M1695
      refine own_st (fun u_ k_ => st1695 u_ k_) ?_
      show own_Go p e below _ (T1695.setTop (mkF m 132 #[.val (.int k1), .val (.int k2), .val (.int k3), .val (.int fl), .val (.int ch), .val (.ref r_1608), .val (.ref b1611), .val (.int (1 : Int32)), .val rv_1661, .val rv_1665, .val rv_1669, .val rv_1661, .unset, .unset, .unset] [(own_or rv_1661 (.ref w0))]))
      refine own_st (fun u_ k_ => XS.aload X1695.here hx rfl (hb hby at_132) rfl ref_1662 k_) ?_
      obtain ⟨T1696, v1696, L1696, X1696, hQ1696, st1696⟩ := own_callS X1695 hx hZ (y := own_y_576) hown (own_w hw 206 rfl) (own_w hw 207 rfl) (own_w hw 155 rfl) (own_w hw 208 rfl) own_lm_1075 (rmON l Z a0 hw [] w0 w1 w2 w3 wl wle wd mAL mUL mUR mOA wcs kle kd hS rv_1661 T1672.heap n0 O1692 ref_1662) e1695 own_pd_1078 (argsL := [rv_1661]) (rest := [(own_or rv_1661 (.ref w0))]) rfl rfl (g := (mkF m 134 #[.val (.int k1), .val (.int k2), .val (.int k3), .val (.int fl), .val (.int ch), .val (.ref r_1608), .val (.ref b1611), .val (.int (1 : Int32)), .val rv_1661, .val rv_1665, .val rv_1669, .val rv_1661, .unset, .unset, .unset] [rv_1661, (own_or rv_1661 (.ref w0))])) rfl (by rw [hml]; rfl) rfl (hb hby at_134) (W := 1) (by show 2 * 0 + _ = _; simp only [List.map, List.sum_cons, List.sum_nil, XT.cat1 (own_orR (w := .ref w0) ref_1662 rfl)]; rfl) (by decide) (by decide) (by decide) (by decide)
      obtain ⟨rfl, M1696, e1696⟩ := hQ1696
      have N1696 := Fr.app N1695 M1696
      refine own_st (fun u_ k_ => st1696 u_ k_) ?_
      show own_Go p e below _ (T1696.setTop (mkF m 137 #[.val (.int k1), .val (.int k2), .val (.int k3), .val (.int fl), .val (.int ch), .val (.ref r_1608), .val (.ref b1611), .val (.int (1 : Int32)), .val rv_1661, .val rv_1665, .val rv_1669, .val rv_1661, .unset, .unset, .unset] [(own_or rv_1661 (.ref w0)), (own_or rv_1661 (.ref w0))]))
      refine own_st (fun u_ k_ => XT.acmpNo X1696.here hx rfl (hb hby at_137) rfl (own_orR (w := .ref w0) ref_1662 rfl) (own_orR (w := .ref w0) ref_1662 rfl) (XT.aa_ne_f rfl) k_) ?_
      show own_Go p e below _ (T1696.setTop (mkF m 140 #[.val (.int k1), .val (.int k2), .val (.int k3), .val (.int fl), .val (.int ch), .val (.ref r_1608), .val (.ref b1611), .val (.int (1 : Int32)), .val rv_1661, .val rv_1665, .val rv_1669, .val rv_1661, .unset, .unset, .unset] []))
      refine own_st (fun u_ k_ => XS.iconst X1696.here hx rfl (hb hby at_140) k_) ?_
      refine own_st (fun u_ k_ => XS.goto X1696.here hx rfl (pc0 := 141) (pc' := 145) rfl (hb hby at_141) (by decide) (by decide) k_) ?_
      show own_Go p e below _ (T1696.setTop (mkF m 145 #[.val (.int k1), .val (.int k2), .val (.int k3), .val (.int fl), .val (.int ch), .val (.ref r_1608), .val (.ref b1611), .val (.int (1 : Int32)), .val rv_1661, .val rv_1665, .val rv_1669, .val rv_1661, .unset, .unset, .unset] [(.int (1 : Int32))]))
      refine own_st (fun u_ k_ => XS.istore X1696.here hx rfl (hb hby at_145) rfl (l' := #[.val (.int k1), .val (.int k2), .val (.int k3), .val (.int fl), .val (.int ch), .val (.ref r_1608), .val (.ref b1611), .val (.int (1 : Int32)), .val rv_1661, .val rv_1665, .val rv_1669, .val rv_1661, .unset, .unset, .unset]) rfl k_) ?_
      obtain ⟨T1697, h1697, X1697, e1697, E1697, A1697, D1697, U1697, st1697⟩ := newO X1696 hx hZ hown (own_w hw 26 rfl) (own_w hw 27 rfl) (own_w hw 28 rfl) e1696 (g := (mkF m 147 #[.val (.int k1), .val (.int k2), .val (.int k3), .val (.int fl), .val (.int ch), .val (.ref r_1608), .val (.ref b1611), .val (.int (1 : Int32)), .val rv_1661, .val rv_1665, .val rv_1669, .val rv_1661, .unset, .unset, .unset] [])) rfl (hb hby at_147) (by decide) (by decide)
      obtain ⟨b1697, g1697⟩ : ∃ z, z = T1672.heap.size := ⟨_, rfl⟩
      rw [← g1697] at A1697 D1697 U1697 st1697
      have F1697_qualifiers : Fld Z h1697 b1697 own_c_235 "qualifiers" "Ljava/util/List;" .null := D1697 (Or.inl (own_w hw 40 rfl)) (ty := (.object "java/util/List")) own_lm_104
      have F1697_dependsOn : Fld Z h1697 b1697 own_c_235 "dependsOn" "Ljava/util/List;" .null := D1697 (Or.inl (own_w hw 42 rfl)) (ty := (.object "java/util/List")) own_lm_104
      have F1697_constructorArguments : Fld Z h1697 b1697 own_c_235 "constructorArguments" "Ljava/util/List;" .null := D1697 (Or.inr (own_w hw 68 rfl)) (ty := (.object "java/util/List")) own_lm_104
      have F1697_constructorArgumentsView : Fld Z h1697 b1697 own_c_235 "constructorArgumentsView" "Ljava/util/List;" .null := D1697 (Or.inr (own_w hw 113 rfl)) (ty := (.object "java/util/List")) own_lm_104
      have F1697_propertyValues : Fld Z h1697 b1697 own_c_235 "propertyValues" "Ljava/util/List;" .null := D1697 (Or.inr (own_w hw 115 rfl)) (ty := (.object "java/util/List")) own_lm_104
      have F1697_propertyValuesView : Fld Z h1697 b1697 own_c_235 "propertyValuesView" "Ljava/util/List;" .null := D1697 (Or.inr (own_w hw 117 rfl)) (ty := (.object "java/util/List")) own_lm_104
      have F1697_watchers : Fld Z h1697 b1697 own_c_235 "watchers" "Ljava/util/List;" .null := D1697 (Or.inr (own_w hw 139 rfl)) (ty := (.object "java/util/List")) own_lm_104
      have F1697_className : Fld Z h1697 b1697 own_c_235 "className" "Ljava/lang/String;" .null := D1697 (Or.inl (own_w hw 141 rfl)) (ty := (.object "java/lang/String")) own_lm_319
      have F1697_autowire : Fld Z h1697 b1697 own_c_235 "autowire" own_c_559 .null := D1697 (Or.inl (own_w hw 148 rfl)) (ty := (.object "com/example/temanggung/temanggung/beans/factory/Autowire")) own_lm_379
      have F1697_value : Fld Z h1697 b1697 own_c_235 "value" own_c_560 .null := D1697 (Or.inl (own_w hw 221 rfl)) (ty := (.object "com/example/temanggung/temanggung/beans/factory/DefinedValue")) own_lm_396
      have F1697_abstractDefinition : Fld Z h1697 b1697 own_c_235 "abstractDefinition" "Z" (.int (0 : Int32)) := D1697 (Or.inl (own_w hw 223 rfl)) (ty := .boolean) own_lm_413
      have F1697_primary : Fld Z h1697 b1697 own_c_235 "primary" "Z" (.int (0 : Int32)) := D1697 (Or.inl (own_w hw 225 rfl)) (ty := .boolean) own_lm_413
      have F1697_scope : Fld Z h1697 b1697 own_c_235 "scope" "Ljava/lang/String;" .null := D1697 (Or.inl (own_w hw 227 rfl)) (ty := (.object "java/lang/String")) own_lm_319
      have F1697_lazyInit : Fld Z h1697 b1697 own_c_235 "lazyInit" "Ljava/lang/Boolean;" .null := D1697 (Or.inl (own_w hw 229 rfl)) (ty := (.object "java/lang/Boolean")) own_lm_462
      have F1697_factoryBeanName : Fld Z h1697 b1697 own_c_235 "factoryBeanName" "Ljava/lang/String;" .null := D1697 (Or.inl (own_w hw 233 rfl)) (ty := (.object "java/lang/String")) own_lm_319
      have F1697_factoryMethodName : Fld Z h1697 b1697 own_c_235 "factoryMethodName" "Ljava/lang/String;" .null := D1697 (Or.inl (own_w hw 235 rfl)) (ty := (.object "java/lang/String")) own_lm_319
      have F1697_initMethodName : Fld Z h1697 b1697 own_c_235 "initMethodName" "Ljava/lang/String;" .null := D1697 (Or.inl (own_w hw 324 rfl)) (ty := (.object "java/lang/String")) own_lm_319
      have F1697_destroyMethodName : Fld Z h1697 b1697 own_c_235 "destroyMethodName" "Ljava/lang/String;" .null := D1697 (Or.inl (own_w hw 326 rfl)) (ty := (.object "java/lang/String")) own_lm_319
      have F1697_origin : Fld Z h1697 b1697 own_c_235 "origin" "Ljava/lang/String;" .null := D1697 (Or.inl (own_w hw 328 rfl)) (ty := (.object "java/lang/String")) own_lm_319
      refine own_st (fun u_ k_ => st1697 u_ k_) ?_
      show own_Go p e below _ (T1697.setTop (mkF m 150 #[.val (.int k1), .val (.int k2), .val (.int k3), .val (.int fl), .val (.int ch), .val (.ref r_1608), .val (.ref b1611), .val (.int (1 : Int32)), .val rv_1661, .val rv_1665, .val rv_1669, .val rv_1661, .unset, .unset, .unset] [(.ref b1697)]))
      refine own_st (fun u_ k_ => XS.dup X1697.here hx rfl (hb hby at_150) rfl rfl k_) ?_
      refine own_st (fun u_ k_ => XS.aconstNull X1697.here hx rfl (hb hby at_151) k_) ?_
      show own_Go p e below _ (T1697.setTop (mkF m 152 #[.val (.int k1), .val (.int k2), .val (.int k3), .val (.int fl), .val (.int ch), .val (.ref r_1608), .val (.ref b1611), .val (.int (1 : Int32)), .val rv_1661, .val rv_1665, .val rv_1669, .val rv_1661, .unset, .unset, .unset] [.null, (.ref b1697), (.ref b1697)]))
      have g1698 : n0 ≤ b1697 := Nat.le_trans (own_nl O1692) (Nat.le_of_eq g1697.symm)
      have O1700 : Old Z n0 h1697 := O1692.ext E1697
      obtain ⟨T1699, v1699, L1699, X1699, hQ1699, st1699⟩ := own_callN X1697 hx hZ (y := own_y_558) rfl hown (own_w hw 29 rfl) (own_w hw 30 rfl) (own_w hw 28 rfl) (own_w hw 31 rfl) own_lm_615 (rmBI l Z a0 hw [] w0 w1 w2 w3 wl wle wd mAL mUL mUR mOA wcs kle kd hS b1697 (.null : Value) h1697 n0 O1700 g1698 rfl A1697 F1697_qualifiers F1697_dependsOn F1697_constructorArguments F1697_constructorArgumentsView F1697_propertyValues F1697_propertyValuesView F1697_watchers F1697_className F1697_autowire F1697_value F1697_abstractDefinition F1697_primary F1697_scope F1697_lazyInit F1697_factoryBeanName F1697_factoryMethodName F1697_initMethodName F1697_destroyMethodName F1697_origin) e1697 own_pd_799 (a := b1697) (argsL := [.null]) (rest := [(.ref b1697)]) rfl rfl (g := (mkF m 152 #[.val (.int k1), .val (.int k2), .val (.int k3), .val (.int fl), .val (.int ch), .val (.ref r_1608), .val (.ref b1611), .val (.int (1 : Int32)), .val rv_1661, .val rv_1665, .val rv_1669, .val rv_1661, .unset, .unset, .unset] [.null, (.ref b1697), (.ref b1697)])) rfl (by rw [hml]; rfl) rfl (hb hby at_152) (W := 1) rfl (by decide) (by decide) (by decide) (by decide)
      obtain ⟨ca_1701, pv_1702, wt_1703, ar_1704, kr_1705, rfl, M1699, K1699, z1706, z1707, z1708, z1709, F1710, F1711, F1712, F1713, F1714, F1715, F1716, F1717, F1718, F1719, F1720, F1721, F1722, F1723, F1724, F1725, F1726, F1727, F1728, F1729, F1730, F1731, F1732, F1733, F1734, F1735, F1736, F1737, F1738, F1739, ne_1740⟩ := hQ1699
      have N1699 := Fr.app N1696 M1699
      refine own_st (fun u_ k_ => st1699 u_ k_) ?_
      show own_Go p e below _ (T1699.setTop (mkF m 155 #[.val (.int k1), .val (.int k2), .val (.int k3), .val (.int fl), .val (.int ch), .val (.ref r_1608), .val (.ref b1611), .val (.int (1 : Int32)), .val rv_1661, .val rv_1665, .val rv_1669, .val rv_1661, .unset, .unset, .unset] [(.ref b1697)]))
      refine own_st (fun u_ k_ => XS.astore X1699.here hx rfl (hb hby at_155) rfl rfl (l' := #[.val (.int k1), .val (.int k2), .val (.int k3), .val (.int fl), .val (.int ch), .val (.ref r_1608), .val (.ref b1611), .val (.int (1 : Int32)), .val rv_1661, .val rv_1665, .val rv_1669, .val rv_1661, .val (.ref b1697), .unset, .unset]) rfl k_) ?_
      refine own_st (fun u_ k_ => XS.aload X1699.here hx rfl (hb hby at_157) rfl rfl k_) ?_
      show own_Go p e below _ (T1699.setTop (mkF m 159 #[.val (.int k1), .val (.int k2), .val (.int k3), .val (.int fl), .val (.int ch), .val (.ref r_1608), .val (.ref b1611), .val (.int (1 : Int32)), .val rv_1661, .val rv_1665, .val rv_1669, .val rv_1661, .val (.ref b1697), .unset, .unset] [(.ref b1697)]))
      refine own_st (fun u_ k_ => XS.aload X1699.here hx rfl (hb hby at_159) rfl ref_1670 k_) ?_
      have O1742 : Old Z n0 T1699.heap := O1700.keep K1699 (allS g1698 all0)
      obtain ⟨T1741, v1741, L1741, X1741, hQ1741, st1741⟩ := own_callV X1699 hx hZ (y := own_y_647) (z := own_y_647) hown (own_w hw 162 rfl) (own_w hw 163 rfl) (notFace_of_selects (args := #[]) (mvT hZ (own_w hw 165 rfl))) (own_w hw 165 rfl) (own_w hw 164 rfl) (own_w hw 28 rfl) (own_w hw 166 rfl) own_lm_615 (rmSW l Z a0 hw [] w0 w1 w2 w3 wl wle wd mAL mUL mUR mOA wcs kle kd hS b1697 rv_1669 (.null : Value) ca_1701 pv_1702 wt_1703 ar_1704 kr_1705 (.null : Value) T1699.heap n0 O1742 g1698 ref_1670 F1710 F1711 F1712 F1713 F1714 F1715 F1716 F1717 F1718 F1719 F1720 F1721 F1722 F1723 F1724 F1725 F1726 F1727 F1736 F1737 F1738 F1739 rfl) rfl F1710 own_pd_1077 (argsL := [rv_1669]) (rest := []) rfl rfl (g := (mkF m 161 #[.val (.int k1), .val (.int k2), .val (.int k3), .val (.int fl), .val (.int ch), .val (.ref r_1608), .val (.ref b1611), .val (.int (1 : Int32)), .val rv_1661, .val rv_1665, .val rv_1669, .val rv_1661, .val (.ref b1697), .unset, .unset] [rv_1669, (.ref b1697)])) rfl (by rw [hml]; rfl) rfl (hb hby at_161) (W := 0) rfl (by decide) (by decide) (by decide) (by decide)
      obtain ⟨rfl, M1741, K1741, F1743, F1744, F1745, F1746, F1747, F1748, F1749, F1750, F1751, F1752, F1753, F1754, F1755, F1756, F1757, F1758, F1759, F1760⟩ := hQ1741
      have N1741 := Fr.app N1699 M1741
      refine own_st (fun u_ k_ => st1741 u_ k_) ?_
      show own_Go p e below _ (T1741.setTop (mkF m 164 #[.val (.int k1), .val (.int k2), .val (.int k3), .val (.int fl), .val (.int ch), .val (.ref r_1608), .val (.ref b1611), .val (.int (1 : Int32)), .val rv_1661, .val rv_1665, .val rv_1669, .val rv_1661, .val (.ref b1697), .unset, .unset] []))
      refine own_st (fun u_ k_ => XS.aload X1741.here hx rfl (hb hby at_164) rfl rfl k_) ?_
      refine own_st (fun u_ k_ => XS.aload X1741.here hx rfl (hb hby at_166) rfl rfl k_) ?_
      show own_Go p e below _ (T1741.setTop (mkF m 168 #[.val (.int k1), .val (.int k2), .val (.int k3), .val (.int fl), .val (.int ch), .val (.ref r_1608), .val (.ref b1611), .val (.int (1 : Int32)), .val rv_1661, .val rv_1665, .val rv_1669, .val rv_1661, .val (.ref b1697), .unset, .unset] [(.ref b1697), (.ref b1611)]))
      have F1761 := (((Exa.ext E1697 F1673).keep K1699).keep K1741)
      have ne1762 : b1611 ≠ b1697 := (Nat.ne_of_lt (Nat.lt_of_lt_of_le F1673.lt (Nat.le_of_eq g1697.symm)))
      have F1763 := (((Fld.ext E1697 F1674).keep K1699 (ninS ne1762 nin0)).keep K1741 (ninS ne1762 nin0))
      have F1764 := (((Fld.ext E1697 F1675).keep K1699 (ninS ne1762 nin0)).keep K1741 (ninS ne1762 nin0))
      have F1765 := (((Fld.ext E1697 F1676).keep K1699 (ninS ne1762 nin0)).keep K1741 (ninS ne1762 nin0))
      have F1766 := (((Fld.ext E1697 F1677).keep K1699 (ninS ne1762 nin0)).keep K1741 (ninS ne1762 nin0))
      have F1767 := (((Fld.ext E1697 F1678).keep K1699 (ninS ne1762 nin0)).keep K1741 (ninS ne1762 nin0))
      have F1768 := (((Fld.ext E1697 F1679).keep K1699 (ninS ne1762 nin0)).keep K1741 (ninS ne1762 nin0))
      have F1769 := (((Fld.ext E1697 F1680).keep K1699 (ninS ne1762 nin0)).keep K1741 (ninS ne1762 nin0))
      have F1770 := (((Fld.ext E1697 F1681).keep K1699 (ninS ne1762 nin0)).keep K1741 (ninS ne1762 nin0))
      have F1771 := (((Fld.ext E1697 F1682).keep K1699 (ninS ne1762 nin0)).keep K1741 (ninS ne1762 nin0))
      have F1772 := (((Fld.ext E1697 F1683).keep K1699 (ninS ne1762 nin0)).keep K1741 (ninS ne1762 nin0))
      have F1773 := (((Fld.ext E1697 F1684).keep K1699 (ninS ne1762 nin0)).keep K1741 (ninS ne1762 nin0))
      have F1774 := (((Fld.ext E1697 F1685).keep K1699 (ninS ne1762 nin0)).keep K1741 (ninS ne1762 nin0))
      have F1775 := (((Fld.ext E1697 F1686).keep K1699 (ninS ne1762 nin0)).keep K1741 (ninS ne1762 nin0))
      have F1776 := (((Fld.ext E1697 F1687).keep K1699 (ninS ne1762 nin0)).keep K1741 (ninS ne1762 nin0))
      have F1777 := (((Fld.ext E1697 F1688).keep K1699 (ninS ne1762 nin0)).keep K1741 (ninS ne1762 nin0))
      have F1778 := (((Fld.ext E1697 F1689).keep K1699 (ninS ne1762 nin0)).keep K1741 (ninS ne1762 nin0))
      have F1779 := (((Fld.ext E1697 F1690).keep K1699 (ninS ne1762 nin0)).keep K1741 (ninS ne1762 nin0))
      have F1780 := (((Exa.ext E1697 (F1643.keep K1672)).keep K1699).keep K1741)
      have ne1781 : ca_1616 ≠ b1611 := (Ne.symm (Nat.ne_of_lt (Nat.lt_of_lt_of_le F1611_constructorArgumentsView.lt z1621)))
      have ne1782 : ca_1616 ≠ b1697 := (Nat.ne_of_lt (Nat.lt_of_lt_of_le (Nat.lt_of_lt_of_le F1643.lt K1672.1) (Nat.le_of_eq g1697.symm)))
      have F1783 := (((Fld.ext E1697 (F1644.keep K1672 (ninS ne1781 nin0))).keep K1699 (ninS ne1782 nin0)).keep K1741 (ninS ne1782 nin0))
      have F1784 := (((Fld.ext E1697 (F1645.keep K1672 (ninS ne1781 nin0))).keep K1699 (ninS ne1782 nin0)).keep K1741 (ninS ne1782 nin0))
      have F1785 := (((Fld.ext E1697 (F1646.keep K1672 (ninS ne1781 nin0))).keep K1699 (ninS ne1782 nin0)).keep K1741 (ninS ne1782 nin0))
      have F1786 := (((Exa.ext E1697 (F1647.keep K1672)).keep K1699).keep K1741)
      have ne1787 : pv_1617 ≠ b1611 := (Ne.symm (Nat.ne_of_lt (Nat.lt_of_lt_of_le F1611_constructorArgumentsView.lt z1622)))
      have ne1788 : pv_1617 ≠ b1697 := (Nat.ne_of_lt (Nat.lt_of_lt_of_le (Nat.lt_of_lt_of_le F1647.lt K1672.1) (Nat.le_of_eq g1697.symm)))
      have F1789 := (((Fld.ext E1697 (F1648.keep K1672 (ninS ne1787 nin0))).keep K1699 (ninS ne1788 nin0)).keep K1741 (ninS ne1788 nin0))
      have F1790 := (((Fld.ext E1697 (F1649.keep K1672 (ninS ne1787 nin0))).keep K1699 (ninS ne1788 nin0)).keep K1741 (ninS ne1788 nin0))
      have F1791 := (((Fld.ext E1697 (F1650.keep K1672 (ninS ne1787 nin0))).keep K1699 (ninS ne1788 nin0)).keep K1741 (ninS ne1788 nin0))
      have F1792 := (F1728.keep K1741)
      have ne1793 : ca_1701 ≠ b1697 := (Ne.symm (Nat.ne_of_lt (Nat.lt_of_lt_of_le F1697_constructorArgumentsView.lt z1706)))
      have F1794 := (F1729.keep K1741 (ninS ne1793 nin0))
      have F1795 := (F1730.keep K1741 (ninS ne1793 nin0))
      have F1796 := (F1731.keep K1741 (ninS ne1793 nin0))
      have F1797 := (F1732.keep K1741)
      have ne1798 : pv_1702 ≠ b1697 := (Ne.symm (Nat.ne_of_lt (Nat.lt_of_lt_of_le F1697_constructorArgumentsView.lt z1707)))
      have F1799 := (F1733.keep K1741 (ninS ne1798 nin0))
      have F1800 := (F1734.keep K1741 (ninS ne1798 nin0))
      have F1801 := (F1735.keep K1741 (ninS ne1798 nin0))
      have F1802 := (((Exa.ext E1697 (((Exa.ext E1611 F1610).keep K1614).keep K1672)).keep K1699).keep K1741)
      have O1804 : Old Z n0 T1741.heap := O1742.keep K1741 (allS g1698 all0)
      obtain ⟨T1803, v1803, L1803, X1803, hQ1803, st1803⟩ := own_callV X1741 hx hZ (y := own_y_1073) (z := own_y_1073) hown (own_w hw 209 rfl) (own_w hw 210 rfl) (notFace_of_selects (args := #[]) (mvT hZ (own_w hw 212 rfl))) (own_w hw 212 rfl) (own_w hw 211 rfl) (own_w hw 28 rfl) (own_w hw 213 rfl) own_lm_615 (rmMR l Z a0 hw [] w0 w1 w2 w3 wl wle wd mAL mUL mUR mOA wcs kle kd hS b1611 b1697 r_1608 ca_1616 pv_1617 wt_1618 rv_1661 ca_1701 pv_1702 wt_1703 rv_1669 T1741.heap n0 O1804 F1761 F1763 F1764 F1765 F1766 F1767 F1768 F1769 F1770 F1771 F1772 F1773 F1774 F1775 F1776 F1777 F1778 F1779 F1743 F1744 F1745 F1746 F1747 F1748 F1749 F1750 F1751 F1752 F1753 F1754 F1755 F1756 F1757 F1758 F1759 F1760 F1780 F1783 F1784 F1785 F1786 F1789 F1790 F1791 F1792 F1794 F1795 F1796 F1797 F1799 F1800 F1801 F1802 ref_1662 ref_1670 aw_1663 aw_1671) rfl F1761 own_pd_1079 (argsL := [(.ref b1697)]) (rest := []) rfl rfl (g := (mkF m 168 #[.val (.int k1), .val (.int k2), .val (.int k3), .val (.int fl), .val (.int ch), .val (.ref r_1608), .val (.ref b1611), .val (.int (1 : Int32)), .val rv_1661, .val rv_1665, .val rv_1669, .val rv_1661, .val (.ref b1697), .unset, .unset] [(.ref b1697), (.ref b1611)])) rfl (by rw [hml]; rfl) rfl (hb hby at_168) (W := 0) rfl (by decide) (by decide) (by decide) (by decide)
      obtain ⟨r_1805, u3_1806, rfl, M1803, K1803, z1807, F1808, F1809, eq_1810⟩ := hQ1803
      have N1803 := Fr.app N1741 M1803
      subst eq_1810
      refine own_st (fun u_ k_ => st1803 u_ k_) ?_
      show own_Go p e below _ (T1803.setTop (mkF m 171 #[.val (.int k1), .val (.int k2), .val (.int k3), .val (.int fl), .val (.int ch), .val (.ref r_1608), .val (.ref b1611), .val (.int (1 : Int32)), .val rv_1661, .val rv_1665, .val rv_1669, .val rv_1661, .val (.ref b1697), .unset, .unset] [(.ref r_1805)]))
      refine own_st (fun u_ k_ => XS.astore X1803.here hx rfl (hb hby at_171) rfl rfl (l' := #[.val (.int k1), .val (.int k2), .val (.int k3), .val (.int fl), .val (.int ch), .val (.ref r_1608), .val (.ref b1611), .val (.int (1 : Int32)), .val rv_1661, .val rv_1665, .val rv_1669, .val rv_1661, .val (.ref b1697), .val (.ref r_1805), .unset]) rfl k_) ?_
      refine own_st (fun u_ k_ => XS.aload X1803.here hx rfl (hb hby at_173) rfl ref_1662 k_) ?_
      show own_Go p e below _ (T1803.setTop (mkF m 175 #[.val (.int k1), .val (.int k2), .val (.int k3), .val (.int fl), .val (.int ch), .val (.ref r_1608), .val (.ref b1611), .val (.int (1 : Int32)), .val rv_1661, .val rv_1665, .val rv_1669, .val rv_1661, .val (.ref b1697), .val (.ref r_1805), .unset] [rv_1661]))
      rcases ref_cases ref_1662 with rfl | ⟨r1811, rfl⟩
      · show own_Go p e below _ (T1803.setTop (mkF m 175 #[.val (.int k1), .val (.int k2), .val (.int k3), .val (.int fl), .val (.int ch), .val (.ref r_1608), .val (.ref b1611), .val (.int (1 : Int32)), .val .null, .val rv_1665, .val rv_1669, .val .null, .val (.ref b1697), .val (.ref r_1805), .unset] [.null]))
        refine own_st (fun u_ k_ => XS.ifnullYes X1803.here hx rfl (pc0 := 175) (pc' := 183) rfl (hb hby at_175) rfl (by decide) (by decide) k_) ?_
        refine own_st (fun u_ k_ => XS.aload X1803.here hx rfl (hb hby at_183) rfl ref_1670 k_) ?_
        show own_Go p e below _ (T1803.setTop (mkF m 185 #[.val (.int k1), .val (.int k2), .val (.int k3), .val (.int fl), .val (.int ch), .val (.ref r_1608), .val (.ref b1611), .val (.int (1 : Int32)), .val .null, .val rv_1665, .val rv_1669, .val .null, .val (.ref b1697), .val (.ref r_1805), .unset] [rv_1669]))
        have O1813 : Old Z n0 T1803.heap := O1804.keep K1803 all0
        obtain ⟨T1812, v1812, L1812, X1812, hQ1812, st1812⟩ := own_callS X1803 hx hZ (y := own_y_576) hown (own_w hw 206 rfl) (own_w hw 207 rfl) (own_w hw 155 rfl) (own_w hw 208 rfl) own_lm_1075 (rmON l Z a0 hw [] w0 w1 w2 w3 wl wle wd mAL mUL mUR mOA wcs kle kd hS rv_1669 T1803.heap n0 O1813 ref_1670) rfl own_pd_1078 (argsL := [rv_1669]) (rest := []) rfl rfl (g := (mkF m 185 #[.val (.int k1), .val (.int k2), .val (.int k3), .val (.int fl), .val (.int ch), .val (.ref r_1608), .val (.ref b1611), .val (.int (1 : Int32)), .val .null, .val rv_1665, .val rv_1669, .val .null, .val (.ref b1697), .val (.ref r_1805), .unset] [rv_1669])) rfl (by rw [hml]; rfl) rfl (hb hby at_185) (W := 0) rfl (by decide) (by decide) (by decide) (by decide)
        obtain ⟨rfl, M1812, e1812⟩ := hQ1812
        have N1812 := Fr.app N1803 M1812
        refine own_st (fun u_ k_ => st1812 u_ k_) ?_
        show own_Go p e below _ (T1812.setTop (mkF m 188 #[.val (.int k1), .val (.int k2), .val (.int k3), .val (.int fl), .val (.int ch), .val (.ref r_1608), .val (.ref b1611), .val (.int (1 : Int32)), .val .null, .val rv_1665, .val rv_1669, .val .null, .val (.ref b1697), .val (.ref r_1805), .unset] [(own_or rv_1669 (.ref w0))]))
        refine own_st (fun u_ k_ => XS.astoreS X1812.here hx rfl (hb hby at_188) rfl (own_orR (w := .ref w0) ref_1670 rfl) (XT.cat1 (own_orR (w := .ref w0) ref_1670 rfl)) rfl (Or.inl rfl) k_) ?_
        refine own_st (fun u_ k_ => XS.iload X1812.here hx rfl (hb hby at_190) rfl k_) ?_
        show own_Go p e below _ (T1812.setTop (mkF m 192 #[.val (.int k1), .val (.int k2), .val (.int k3), .val (.int fl), .val (.int ch), .val (.ref r_1608), .val (.ref b1611), .val (.int (1 : Int32)), .val .null, .val rv_1665, .val rv_1669, .val .null, .val (.ref b1697), .val (.ref r_1805), .val (own_or rv_1669 (.ref w0))] [(.int (1 : Int32))]))
        refine own_st (fun u_ k_ => XS.ifNo X1812.here hx rfl (hb hby at_192) rfl (XT.i0_eq_f (by decide)) k_) ?_
        refine own_st (fun u_ k_ => XS.aload X1812.here hx rfl (hb hby at_195) rfl rfl k_) ?_
        show own_Go p e below _ (T1812.setTop (mkF m 197 #[.val (.int k1), .val (.int k2), .val (.int k3), .val (.int fl), .val (.int ch), .val (.ref r_1608), .val (.ref b1611), .val (.int (1 : Int32)), .val .null, .val rv_1665, .val rv_1669, .val .null, .val (.ref b1697), .val (.ref r_1805), .val (own_or rv_1669 (.ref w0))] [(.ref r_1805)]))
        obtain ⟨T1814, v1814, L1814, X1814, hQ1814, st1814⟩ := own_callV X1812 hx hZ (y := own_y_569) (z := own_y_569) hown (own_w hw 142 rfl) (own_w hw 143 rfl) (notFace_of_selects (args := #[]) (mvT hZ (own_w hw 145 rfl))) (own_w hw 145 rfl) (own_w hw 144 rfl) (own_w hw 28 rfl) (own_w hw 146 rfl) own_lm_615 (rmGW l Z a0 hw [] w0 w1 w2 w3 wl wle wd mAL mUL mUR mOA wcs kle kd hS r_1805 (own_or (.null : Value) rv_1669) T1803.heap n0 O1813 F1809 (own_orR ref_1662 ref_1670)) e1812 F1808 own_pd_1074 (argsL := []) (rest := []) rfl rfl (g := (mkF m 197 #[.val (.int k1), .val (.int k2), .val (.int k3), .val (.int fl), .val (.int ch), .val (.ref r_1608), .val (.ref b1611), .val (.int (1 : Int32)), .val .null, .val rv_1665, .val rv_1669, .val .null, .val (.ref b1697), .val (.ref r_1805), .val (own_or rv_1669 (.ref w0))] [(.ref r_1805)])) rfl (by rw [hml]; rfl) rfl (hb hby at_197) (W := 0) rfl (by decide) (by decide) (by decide) (by decide)
        obtain ⟨rfl, M1814, e1814⟩ := hQ1814
        have N1814 := Fr.app N1812 M1814
        refine own_st (fun u_ k_ => st1814 u_ k_) ?_
        show own_Go p e below _ (T1814.setTop (mkF m 200 #[.val (.int k1), .val (.int k2), .val (.int k3), .val (.int fl), .val (.int ch), .val (.ref r_1608), .val (.ref b1611), .val (.int (1 : Int32)), .val .null, .val rv_1665, .val rv_1669, .val .null, .val (.ref b1697), .val (.ref r_1805), .val (own_or rv_1669 (.ref w0))] [(own_or (own_or (.null : Value) rv_1669) (.ref w0))]))
        refine own_st (fun u_ k_ => XS.aload X1814.here hx rfl (hb hby at_200) rfl (own_orR (w := .ref w0) ref_1670 rfl) k_) ?_
        refine own_st (fun u_ k_ => XT.acmpNo X1814.here hx rfl (hb hby at_202) rfl (own_orR (w := .ref w0) (own_orR ref_1662 ref_1670) rfl) (own_orR (w := .ref w0) ref_1670 rfl) (XT.aa_ne_f rfl) k_) ?_
        show own_Go p e below _ (T1814.setTop (mkF m 205 #[.val (.int k1), .val (.int k2), .val (.int k3), .val (.int fl), .val (.int ch), .val (.ref r_1608), .val (.ref b1611), .val (.int (1 : Int32)), .val .null, .val rv_1665, .val rv_1669, .val .null, .val (.ref b1697), .val (.ref r_1805), .val (own_or rv_1669 (.ref w0))] []))
        refine own_st (fun u_ k_ => XS.iconst X1814.here hx rfl (hb hby at_205) k_) ?_
        refine own_st (fun u_ k_ => XS.goto X1814.here hx rfl (pc0 := 206) (pc' := 210) rfl (hb hby at_206) (by decide) (by decide) k_) ?_
        show own_Go p e below _ (T1814.setTop (mkF m 210 #[.val (.int k1), .val (.int k2), .val (.int k3), .val (.int fl), .val (.int ch), .val (.ref r_1608), .val (.ref b1611), .val (.int (1 : Int32)), .val .null, .val rv_1665, .val rv_1669, .val .null, .val (.ref b1697), .val (.ref r_1805), .val (own_or rv_1669 (.ref w0))] [(.int (1 : Int32))]))
        refine own_st (fun u_ k_ => XS.istore X1814.here hx rfl (hb hby at_210) rfl (l' := #[.val (.int k1), .val (.int k2), .val (.int k3), .val (.int fl), .val (.int ch), .val (.ref r_1608), .val (.ref b1611), .val (.int (1 : Int32)), .val .null, .val rv_1665, .val rv_1669, .val .null, .val (.ref b1697), .val (.ref r_1805), .val (own_or rv_1669 (.ref w0))]) rfl k_) ?_
        refine own_st (fun u_ k_ => XS.iload X1814.here hx rfl (hb hby at_212) rfl k_) ?_
        show own_Go p e below _ (T1814.setTop (mkF m 214 #[.val (.int k1), .val (.int k2), .val (.int k3), .val (.int fl), .val (.int ch), .val (.ref r_1608), .val (.ref b1611), .val (.int (1 : Int32)), .val .null, .val rv_1665, .val rv_1669, .val .null, .val (.ref b1697), .val (.ref r_1805), .val (own_or rv_1669 (.ref w0))] [(.int (1 : Int32))]))
        have K1815 : Keep h0 T1607.heap [] := (Keep.refl h0 []).trans K1607 all0
        have K1816 : Keep h0 h1611 [] := K1815.ext E1611
        have z1818 : h0.size ≤ b1611 := Nat.le_trans K1607.1 (Nat.le_of_eq g1611.symm)
        have K1817 : Keep h0 T1614.heap [] := K1816.trans K1614 (allS (Or.inr z1818) all0)
        have K1819 : Keep h0 T1672.heap [] := K1817.trans K1672 (allS (Or.inr z1818) all0)
        have K1820 : Keep h0 h1697 [] := K1819.ext E1697
        have z1822 : h0.size ≤ b1697 := Nat.le_trans (Nat.le_trans (Nat.le_trans (Nat.le_trans K1607.1 E1611.1) K1614.1) K1672.1) (Nat.le_of_eq g1697.symm)
        have K1821 : Keep h0 T1699.heap [] := K1820.trans K1699 (allS (Or.inr z1822) all0)
        have K1823 : Keep h0 T1741.heap [] := K1821.trans K1741 (allS (Or.inr z1822) all0)
        have K1824 : Keep h0 T1803.heap [] := K1823.trans K1803 all0
        exact own_retX X1814 hx hlk hret rfl (Or.inl ⟨rfl, by simp, _, rfl⟩) (hb hby at_214) (by decide) (by decide) (show Qrm0 Z w0 w1 w2 w3 wl wle wd mAL mUL mUR mOA wcs kle kd k1 k2 k3 fl ch h0 n0 (some (.int (1 : Int32))) T1814.heap _ from (by rw [e1814]; exact ⟨rfl, N1814, K1824⟩))
      · show own_Go p e below _ (T1803.setTop (mkF m 175 #[.val (.int k1), .val (.int k2), .val (.int k3), .val (.int fl), .val (.int ch), .val (.ref r_1608), .val (.ref b1611), .val (.int (1 : Int32)), .val (.ref r1811), .val rv_1665, .val rv_1669, .val (.ref r1811), .val (.ref b1697), .val (.ref r_1805), .unset] [(.ref r1811)]))
        refine own_st (fun u_ k_ => XS.ifnullNo X1803.here hx rfl (hb hby at_175) rfl k_) ?_
        refine own_st (fun u_ k_ => XS.aload X1803.here hx rfl (hb hby at_178) rfl rfl k_) ?_
        show own_Go p e below _ (T1803.setTop (mkF m 180 #[.val (.int k1), .val (.int k2), .val (.int k3), .val (.int fl), .val (.int ch), .val (.ref r_1608), .val (.ref b1611), .val (.int (1 : Int32)), .val (.ref r1811), .val rv_1665, .val rv_1669, .val (.ref r1811), .val (.ref b1697), .val (.ref r_1805), .unset] [(.ref r1811)]))
        refine own_st (fun u_ k_ => XS.goto X1803.here hx rfl (pc0 := 180) (pc' := 188) rfl (hb hby at_180) (by decide) (by decide) k_) ?_
        refine own_st (fun u_ k_ => XS.astore X1803.here hx rfl (hb hby at_188) rfl rfl (l' := #[.val (.int k1), .val (.int k2), .val (.int k3), .val (.int fl), .val (.int ch), .val (.ref r_1608), .val (.ref b1611), .val (.int (1 : Int32)), .val (.ref r1811), .val rv_1665, .val rv_1669, .val (.ref r1811), .val (.ref b1697), .val (.ref r_1805), .val (.ref r1811)]) rfl k_) ?_
        show own_Go p e below _ (T1803.setTop (mkF m 190 #[.val (.int k1), .val (.int k2), .val (.int k3), .val (.int fl), .val (.int ch), .val (.ref r_1608), .val (.ref b1611), .val (.int (1 : Int32)), .val (.ref r1811), .val rv_1665, .val rv_1669, .val (.ref r1811), .val (.ref b1697), .val (.ref r_1805), .val (.ref r1811)] []))
        refine own_st (fun u_ k_ => XS.iload X1803.here hx rfl (hb hby at_190) rfl k_) ?_
        refine own_st (fun u_ k_ => XS.ifNo X1803.here hx rfl (hb hby at_192) rfl (XT.i0_eq_f (by decide)) k_) ?_
        show own_Go p e below _ (T1803.setTop (mkF m 195 #[.val (.int k1), .val (.int k2), .val (.int k3), .val (.int fl), .val (.int ch), .val (.ref r_1608), .val (.ref b1611), .val (.int (1 : Int32)), .val (.ref r1811), .val rv_1665, .val rv_1669, .val (.ref r1811), .val (.ref b1697), .val (.ref r_1805), .val (.ref r1811)] []))
        refine own_st (fun u_ k_ => XS.aload X1803.here hx rfl (hb hby at_195) rfl rfl k_) ?_
        have O1826 : Old Z n0 T1803.heap := O1804.keep K1803 all0
        obtain ⟨T1825, v1825, L1825, X1825, hQ1825, st1825⟩ := own_callV X1803 hx hZ (y := own_y_569) (z := own_y_569) hown (own_w hw 142 rfl) (own_w hw 143 rfl) (notFace_of_selects (args := #[]) (mvT hZ (own_w hw 145 rfl))) (own_w hw 145 rfl) (own_w hw 144 rfl) (own_w hw 28 rfl) (own_w hw 146 rfl) own_lm_615 (rmGW l Z a0 hw [] w0 w1 w2 w3 wl wle wd mAL mUL mUR mOA wcs kle kd hS r_1805 (own_or ((.ref r1811) : Value) rv_1669) T1803.heap n0 O1826 F1809 (own_orR ref_1662 ref_1670)) rfl F1808 own_pd_1074 (argsL := []) (rest := []) rfl rfl (g := (mkF m 197 #[.val (.int k1), .val (.int k2), .val (.int k3), .val (.int fl), .val (.int ch), .val (.ref r_1608), .val (.ref b1611), .val (.int (1 : Int32)), .val (.ref r1811), .val rv_1665, .val rv_1669, .val (.ref r1811), .val (.ref b1697), .val (.ref r_1805), .val (.ref r1811)] [(.ref r_1805)])) rfl (by rw [hml]; rfl) rfl (hb hby at_197) (W := 0) rfl (by decide) (by decide) (by decide) (by decide)
        obtain ⟨rfl, M1825, e1825⟩ := hQ1825
        have N1825 := Fr.app N1803 M1825
        refine own_st (fun u_ k_ => st1825 u_ k_) ?_
        show own_Go p e below _ (T1825.setTop (mkF m 200 #[.val (.int k1), .val (.int k2), .val (.int k3), .val (.int fl), .val (.int ch), .val (.ref r_1608), .val (.ref b1611), .val (.int (1 : Int32)), .val (.ref r1811), .val rv_1665, .val rv_1669, .val (.ref r1811), .val (.ref b1697), .val (.ref r_1805), .val (.ref r1811)] [(own_or (own_or ((.ref r1811) : Value) rv_1669) (.ref w0))]))
        refine own_st (fun u_ k_ => XS.aload X1825.here hx rfl (hb hby at_200) rfl rfl k_) ?_
        refine own_st (fun u_ k_ => XT.acmpNo X1825.here hx rfl (hb hby at_202) rfl (own_orR (w := .ref w0) (own_orR ref_1662 ref_1670) rfl) rfl (XT.aa_ne_f rfl) k_) ?_
        show own_Go p e below _ (T1825.setTop (mkF m 205 #[.val (.int k1), .val (.int k2), .val (.int k3), .val (.int fl), .val (.int ch), .val (.ref r_1608), .val (.ref b1611), .val (.int (1 : Int32)), .val (.ref r1811), .val rv_1665, .val rv_1669, .val (.ref r1811), .val (.ref b1697), .val (.ref r_1805), .val (.ref r1811)] []))
        refine own_st (fun u_ k_ => XS.iconst X1825.here hx rfl (hb hby at_205) k_) ?_
        refine own_st (fun u_ k_ => XS.goto X1825.here hx rfl (pc0 := 206) (pc' := 210) rfl (hb hby at_206) (by decide) (by decide) k_) ?_
        show own_Go p e below _ (T1825.setTop (mkF m 210 #[.val (.int k1), .val (.int k2), .val (.int k3), .val (.int fl), .val (.int ch), .val (.ref r_1608), .val (.ref b1611), .val (.int (1 : Int32)), .val (.ref r1811), .val rv_1665, .val rv_1669, .val (.ref r1811), .val (.ref b1697), .val (.ref r_1805), .val (.ref r1811)] [(.int (1 : Int32))]))
        refine own_st (fun u_ k_ => XS.istore X1825.here hx rfl (hb hby at_210) rfl (l' := #[.val (.int k1), .val (.int k2), .val (.int k3), .val (.int fl), .val (.int ch), .val (.ref r_1608), .val (.ref b1611), .val (.int (1 : Int32)), .val (.ref r1811), .val rv_1665, .val rv_1669, .val (.ref r1811), .val (.ref b1697), .val (.ref r_1805), .val (.ref r1811)]) rfl k_) ?_
        refine own_st (fun u_ k_ => XS.iload X1825.here hx rfl (hb hby at_212) rfl k_) ?_
        show own_Go p e below _ (T1825.setTop (mkF m 214 #[.val (.int k1), .val (.int k2), .val (.int k3), .val (.int fl), .val (.int ch), .val (.ref r_1608), .val (.ref b1611), .val (.int (1 : Int32)), .val (.ref r1811), .val rv_1665, .val rv_1669, .val (.ref r1811), .val (.ref b1697), .val (.ref r_1805), .val (.ref r1811)] [(.int (1 : Int32))]))
        have K1827 : Keep h0 T1607.heap [] := (Keep.refl h0 []).trans K1607 all0
        have K1828 : Keep h0 h1611 [] := K1827.ext E1611
        have z1830 : h0.size ≤ b1611 := Nat.le_trans K1607.1 (Nat.le_of_eq g1611.symm)
        have K1829 : Keep h0 T1614.heap [] := K1828.trans K1614 (allS (Or.inr z1830) all0)
        have K1831 : Keep h0 T1672.heap [] := K1829.trans K1672 (allS (Or.inr z1830) all0)
        have K1832 : Keep h0 h1697 [] := K1831.ext E1697
        have z1834 : h0.size ≤ b1697 := Nat.le_trans (Nat.le_trans (Nat.le_trans (Nat.le_trans K1607.1 E1611.1) K1614.1) K1672.1) (Nat.le_of_eq g1697.symm)
        have K1833 : Keep h0 T1699.heap [] := K1832.trans K1699 (allS (Or.inr z1834) all0)
        have K1835 : Keep h0 T1741.heap [] := K1833.trans K1741 (allS (Or.inr z1834) all0)
        have K1836 : Keep h0 T1803.heap [] := K1835.trans K1803 all0
        exact own_retX X1825 hx hlk hret rfl (Or.inl ⟨rfl, by simp, _, rfl⟩) (hb hby at_214) (by decide) (by decide) (show Qrm0 Z w0 w1 w2 w3 wl wle wd mAL mUL mUR mOA wcs kle kd k1 k2 k3 fl ch h0 n0 (some (.int (1 : Int32))) T1825.heap _ from (by rw [e1825]; exact ⟨rfl, N1825, K1836⟩))
    · refine own_st (fun u_ k_ => XS.ifNo X1693.here hx rfl (hb hby at_108) rfl (XT.i0_eq_f hc1694) k_) ?_
      refine own_st (fun u_ k_ => XS.aload X1693.here hx rfl (hb hby at_111) rfl rfl k_) ?_
      show own_Go p e below _ (T1693.setTop (mkF m 113 #[.val (.int k1), .val (.int k2), .val (.int k3), .val (.int fl), .val (.int ch), .val (.ref r_1608), .val (.ref b1611), .val (.int (1 : Int32)), .val rv_1661, .val rv_1665, .val rv_1669, .val rv_1661, .unset, .unset, .unset] [(.ref b1611)]))
      refine own_st (fun u_ k_ => XS.aload X1693.here hx rfl (hb hby at_113) rfl ref_1666 k_) ?_
      have F1837 := (F1651.keep K1672)
      have ne1838 : wt_1618 ≠ b1611 := (Ne.symm (Nat.ne_of_lt (Nat.lt_of_lt_of_le F1611_constructorArgumentsView.lt z1623)))
      have F1839 := (F1652.keep K1672 (ninS ne1838 nin0))
      have ne1840 : ar_1619 ≠ b1611 := (Ne.symm (Nat.ne_of_lt (Nat.lt_of_lt_of_le F1611_constructorArgumentsView.lt z1624)))
      have F1841 := (F1653.keep K1672 (ninS ne1840 nin0))
      have F1842 := (F1654.keep K1672)
      obtain ⟨T1843, v1843, L1843, X1843, hQ1843, st1843⟩ := own_callV X1693 hx hZ (y := own_y_647) (z := own_y_647) hown (own_w hw 162 rfl) (own_w hw 163 rfl) (notFace_of_selects (args := #[]) (mvT hZ (own_w hw 165 rfl))) (own_w hw 165 rfl) (own_w hw 164 rfl) (own_w hw 28 rfl) (own_w hw 166 rfl) own_lm_615 (rmSW l Z a0 hw [] w0 w1 w2 w3 wl wle wd mAL mUL mUR mOA wcs kle kd hS b1611 rv_1665 rv_1661 ca_1616 pv_1617 wt_1618 ar_1619 kr_1620 ((.ref r_1608) : Value) T1672.heap n0 O1692 g1612 ref_1666 F1673 F1674 F1675 F1676 F1677 F1678 F1679 F1680 F1681 F1682 F1683 F1684 F1685 F1686 F1687 F1688 F1689 F1690 F1837 F1839 F1841 F1842 rfl) e1693 F1673 own_pd_1077 (argsL := [rv_1665]) (rest := []) rfl rfl (g := (mkF m 115 #[.val (.int k1), .val (.int k2), .val (.int k3), .val (.int fl), .val (.int ch), .val (.ref r_1608), .val (.ref b1611), .val (.int (1 : Int32)), .val rv_1661, .val rv_1665, .val rv_1669, .val rv_1661, .unset, .unset, .unset] [rv_1665, (.ref b1611)])) rfl (by rw [hml]; rfl) rfl (hb hby at_115) (W := 0) rfl (by decide) (by decide) (by decide) (by decide)
      obtain ⟨rfl, M1843, K1843, F1844, F1845, F1846, F1847, F1848, F1849, F1850, F1851, F1852, F1853, F1854, F1855, F1856, F1857, F1858, F1859, F1860, F1861⟩ := hQ1843
      have N1843 := Fr.app N1693 M1843
      refine own_st (fun u_ k_ => st1843 u_ k_) ?_
      show own_Go p e below _ (T1843.setTop (mkF m 118 #[.val (.int k1), .val (.int k2), .val (.int k3), .val (.int fl), .val (.int ch), .val (.ref r_1608), .val (.ref b1611), .val (.int (1 : Int32)), .val rv_1661, .val rv_1665, .val rv_1669, .val rv_1661, .unset, .unset, .unset] []))
      refine own_st (fun u_ k_ => XS.aload X1843.here hx rfl (hb hby at_118) rfl ref_1666 k_) ?_
      refine own_st (fun u_ k_ => XS.astoreS X1843.here hx rfl (hb hby at_120) rfl ref_1666 (XT.cat1 ref_1666) rfl (Or.inr ⟨_, rfl, XT.cat1 ref_1662⟩) k_) ?_
      show own_Go p e below _ (T1843.setTop (mkF m 122 #[.val (.int k1), .val (.int k2), .val (.int k3), .val (.int fl), .val (.int ch), .val (.ref r_1608), .val (.ref b1611), .val (.int (1 : Int32)), .val rv_1661, .val rv_1665, .val rv_1669, .val rv_1665, .unset, .unset, .unset] []))
      refine own_st (fun u_ k_ => XS.iload X1843.here hx rfl (hb hby at_122) rfl k_) ?_
      refine own_st (fun u_ k_ => XS.ifNo X1843.here hx rfl (hb hby at_124) rfl (XT.i0_eq_f (by decide)) k_) ?_
      show own_Go p e below _ (T1843.setTop (mkF m 127 #[.val (.int k1), .val (.int k2), .val (.int k3), .val (.int fl), .val (.int ch), .val (.ref r_1608), .val (.ref b1611), .val (.int (1 : Int32)), .val rv_1661, .val rv_1665, .val rv_1669, .val rv_1665, .unset, .unset, .unset] []))
      refine own_st (fun u_ k_ => XS.aload X1843.here hx rfl (hb hby at_127) rfl rfl k_) ?_
      have O1863 : Old Z n0 T1843.heap := O1692.keep K1843 (allS g1612 all0)
      obtain ⟨T1862, v1862, L1862, X1862, hQ1862, st1862⟩ := own_callV X1843 hx hZ (y := own_y_569) (z := own_y_569) hown (own_w hw 142 rfl) (own_w hw 143 rfl) (notFace_of_selects (args := #[]) (mvT hZ (own_w hw 145 rfl))) (own_w hw 145 rfl) (own_w hw 144 rfl) (own_w hw 28 rfl) (own_w hw 146 rfl) own_lm_615 (rmGW l Z a0 hw [] w0 w1 w2 w3 wl wle wd mAL mUL mUR mOA wcs kle kd hS b1611 rv_1665 T1843.heap n0 O1863 F1851 ref_1666) rfl F1844 own_pd_1074 (argsL := []) (rest := []) rfl rfl (g := (mkF m 129 #[.val (.int k1), .val (.int k2), .val (.int k3), .val (.int fl), .val (.int ch), .val (.ref r_1608), .val (.ref b1611), .val (.int (1 : Int32)), .val rv_1661, .val rv_1665, .val rv_1669, .val rv_1665, .unset, .unset, .unset] [(.ref b1611)])) rfl (by rw [hml]; rfl) rfl (hb hby at_129) (W := 0) rfl (by decide) (by decide) (by decide) (by decide)
      obtain ⟨rfl, M1862, e1862⟩ := hQ1862
      have N1862 := Fr.app N1843 M1862
      refine own_st (fun u_ k_ => st1862 u_ k_) ?_
      show own_Go p e below _ (T1862.setTop (mkF m 132 #[.val (.int k1), .val (.int k2), .val (.int k3), .val (.int fl), .val (.int ch), .val (.ref r_1608), .val (.ref b1611), .val (.int (1 : Int32)), .val rv_1661, .val rv_1665, .val rv_1669, .val rv_1665, .unset, .unset, .unset] [(own_or rv_1665 (.ref w0))]))
      refine own_st (fun u_ k_ => XS.aload X1862.here hx rfl (hb hby at_132) rfl ref_1666 k_) ?_
      obtain ⟨T1864, v1864, L1864, X1864, hQ1864, st1864⟩ := own_callS X1862 hx hZ (y := own_y_576) hown (own_w hw 206 rfl) (own_w hw 207 rfl) (own_w hw 155 rfl) (own_w hw 208 rfl) own_lm_1075 (rmON l Z a0 hw [] w0 w1 w2 w3 wl wle wd mAL mUL mUR mOA wcs kle kd hS rv_1665 T1843.heap n0 O1863 ref_1666) e1862 own_pd_1078 (argsL := [rv_1665]) (rest := [(own_or rv_1665 (.ref w0))]) rfl rfl (g := (mkF m 134 #[.val (.int k1), .val (.int k2), .val (.int k3), .val (.int fl), .val (.int ch), .val (.ref r_1608), .val (.ref b1611), .val (.int (1 : Int32)), .val rv_1661, .val rv_1665, .val rv_1669, .val rv_1665, .unset, .unset, .unset] [rv_1665, (own_or rv_1665 (.ref w0))])) rfl (by rw [hml]; rfl) rfl (hb hby at_134) (W := 1) (by show 2 * 0 + _ = _; simp only [List.map, List.sum_cons, List.sum_nil, XT.cat1 (own_orR (w := .ref w0) ref_1666 rfl)]; rfl) (by decide) (by decide) (by decide) (by decide)
      obtain ⟨rfl, M1864, e1864⟩ := hQ1864
      have N1864 := Fr.app N1862 M1864
      refine own_st (fun u_ k_ => st1864 u_ k_) ?_
      show own_Go p e below _ (T1864.setTop (mkF m 137 #[.val (.int k1), .val (.int k2), .val (.int k3), .val (.int fl), .val (.int ch), .val (.ref r_1608), .val (.ref b1611), .val (.int (1 : Int32)), .val rv_1661, .val rv_1665, .val rv_1669, .val rv_1665, .unset, .unset, .unset] [(own_or rv_1665 (.ref w0)), (own_or rv_1665 (.ref w0))]))
      refine own_st (fun u_ k_ => XT.acmpNo X1864.here hx rfl (hb hby at_137) rfl (own_orR (w := .ref w0) ref_1666 rfl) (own_orR (w := .ref w0) ref_1666 rfl) (XT.aa_ne_f rfl) k_) ?_
      show own_Go p e below _ (T1864.setTop (mkF m 140 #[.val (.int k1), .val (.int k2), .val (.int k3), .val (.int fl), .val (.int ch), .val (.ref r_1608), .val (.ref b1611), .val (.int (1 : Int32)), .val rv_1661, .val rv_1665, .val rv_1669, .val rv_1665, .unset, .unset, .unset] []))
      refine own_st (fun u_ k_ => XS.iconst X1864.here hx rfl (hb hby at_140) k_) ?_
      refine own_st (fun u_ k_ => XS.goto X1864.here hx rfl (pc0 := 141) (pc' := 145) rfl (hb hby at_141) (by decide) (by decide) k_) ?_
      show own_Go p e below _ (T1864.setTop (mkF m 145 #[.val (.int k1), .val (.int k2), .val (.int k3), .val (.int fl), .val (.int ch), .val (.ref r_1608), .val (.ref b1611), .val (.int (1 : Int32)), .val rv_1661, .val rv_1665, .val rv_1669, .val rv_1665, .unset, .unset, .unset] [(.int (1 : Int32))]))
      refine own_st (fun u_ k_ => XS.istore X1864.here hx rfl (hb hby at_145) rfl (l' := #[.val (.int k1), .val (.int k2), .val (.int k3), .val (.int fl), .val (.int ch), .val (.ref r_1608), .val (.ref b1611), .val (.int (1 : Int32)), .val rv_1661, .val rv_1665, .val rv_1669, .val rv_1665, .unset, .unset, .unset]) rfl k_) ?_
      obtain ⟨T1865, h1865, X1865, e1865, E1865, A1865, D1865, U1865, st1865⟩ := newO X1864 hx hZ hown (own_w hw 26 rfl) (own_w hw 27 rfl) (own_w hw 28 rfl) e1864 (g := (mkF m 147 #[.val (.int k1), .val (.int k2), .val (.int k3), .val (.int fl), .val (.int ch), .val (.ref r_1608), .val (.ref b1611), .val (.int (1 : Int32)), .val rv_1661, .val rv_1665, .val rv_1669, .val rv_1665, .unset, .unset, .unset] [])) rfl (hb hby at_147) (by decide) (by decide)
      obtain ⟨b1865, g1865⟩ : ∃ z, z = T1843.heap.size := ⟨_, rfl⟩
      rw [← g1865] at A1865 D1865 U1865 st1865
      have F1865_qualifiers : Fld Z h1865 b1865 own_c_235 "qualifiers" "Ljava/util/List;" .null := D1865 (Or.inl (own_w hw 40 rfl)) (ty := (.object "java/util/List")) own_lm_104
      have F1865_dependsOn : Fld Z h1865 b1865 own_c_235 "dependsOn" "Ljava/util/List;" .null := D1865 (Or.inl (own_w hw 42 rfl)) (ty := (.object "java/util/List")) own_lm_104
      have F1865_constructorArguments : Fld Z h1865 b1865 own_c_235 "constructorArguments" "Ljava/util/List;" .null := D1865 (Or.inr (own_w hw 68 rfl)) (ty := (.object "java/util/List")) own_lm_104
      have F1865_constructorArgumentsView : Fld Z h1865 b1865 own_c_235 "constructorArgumentsView" "Ljava/util/List;" .null := D1865 (Or.inr (own_w hw 113 rfl)) (ty := (.object "java/util/List")) own_lm_104
      have F1865_propertyValues : Fld Z h1865 b1865 own_c_235 "propertyValues" "Ljava/util/List;" .null := D1865 (Or.inr (own_w hw 115 rfl)) (ty := (.object "java/util/List")) own_lm_104
      have F1865_propertyValuesView : Fld Z h1865 b1865 own_c_235 "propertyValuesView" "Ljava/util/List;" .null := D1865 (Or.inr (own_w hw 117 rfl)) (ty := (.object "java/util/List")) own_lm_104
      have F1865_watchers : Fld Z h1865 b1865 own_c_235 "watchers" "Ljava/util/List;" .null := D1865 (Or.inr (own_w hw 139 rfl)) (ty := (.object "java/util/List")) own_lm_104
      have F1865_className : Fld Z h1865 b1865 own_c_235 "className" "Ljava/lang/String;" .null := D1865 (Or.inl (own_w hw 141 rfl)) (ty := (.object "java/lang/String")) own_lm_319
      have F1865_autowire : Fld Z h1865 b1865 own_c_235 "autowire" own_c_559 .null := D1865 (Or.inl (own_w hw 148 rfl)) (ty := (.object "com/example/temanggung/temanggung/beans/factory/Autowire")) own_lm_379
      have F1865_value : Fld Z h1865 b1865 own_c_235 "value" own_c_560 .null := D1865 (Or.inl (own_w hw 221 rfl)) (ty := (.object "com/example/temanggung/temanggung/beans/factory/DefinedValue")) own_lm_396
      have F1865_abstractDefinition : Fld Z h1865 b1865 own_c_235 "abstractDefinition" "Z" (.int (0 : Int32)) := D1865 (Or.inl (own_w hw 223 rfl)) (ty := .boolean) own_lm_413
      have F1865_primary : Fld Z h1865 b1865 own_c_235 "primary" "Z" (.int (0 : Int32)) := D1865 (Or.inl (own_w hw 225 rfl)) (ty := .boolean) own_lm_413
      have F1865_scope : Fld Z h1865 b1865 own_c_235 "scope" "Ljava/lang/String;" .null := D1865 (Or.inl (own_w hw 227 rfl)) (ty := (.object "java/lang/String")) own_lm_319
      have F1865_lazyInit : Fld Z h1865 b1865 own_c_235 "lazyInit" "Ljava/lang/Boolean;" .null := D1865 (Or.inl (own_w hw 229 rfl)) (ty := (.object "java/lang/Boolean")) own_lm_462
      have F1865_factoryBeanName : Fld Z h1865 b1865 own_c_235 "factoryBeanName" "Ljava/lang/String;" .null := D1865 (Or.inl (own_w hw 233 rfl)) (ty := (.object "java/lang/String")) own_lm_319
      have F1865_factoryMethodName : Fld Z h1865 b1865 own_c_235 "factoryMethodName" "Ljava/lang/String;" .null := D1865 (Or.inl (own_w hw 235 rfl)) (ty := (.object "java/lang/String")) own_lm_319
      have F1865_initMethodName : Fld Z h1865 b1865 own_c_235 "initMethodName" "Ljava/lang/String;" .null := D1865 (Or.inl (own_w hw 324 rfl)) (ty := (.object "java/lang/String")) own_lm_319
      have F1865_destroyMethodName : Fld Z h1865 b1865 own_c_235 "destroyMethodName" "Ljava/lang/String;" .null := D1865 (Or.inl (own_w hw 326 rfl)) (ty := (.object "java/lang/String")) own_lm_319
      have F1865_origin : Fld Z h1865 b1865 own_c_235 "origin" "Ljava/lang/String;" .null := D1865 (Or.inl (own_w hw 328 rfl)) (ty := (.object "java/lang/String")) own_lm_319
      refine own_st (fun u_ k_ => st1865 u_ k_) ?_
      show own_Go p e below _ (T1865.setTop (mkF m 150 #[.val (.int k1), .val (.int k2), .val (.int k3), .val (.int fl), .val (.int ch), .val (.ref r_1608), .val (.ref b1611), .val (.int (1 : Int32)), .val rv_1661, .val rv_1665, .val rv_1669, .val rv_1665, .unset, .unset, .unset] [(.ref b1865)]))
      refine own_st (fun u_ k_ => XS.dup X1865.here hx rfl (hb hby at_150) rfl rfl k_) ?_
      refine own_st (fun u_ k_ => XS.aconstNull X1865.here hx rfl (hb hby at_151) k_) ?_
      show own_Go p e below _ (T1865.setTop (mkF m 152 #[.val (.int k1), .val (.int k2), .val (.int k3), .val (.int fl), .val (.int ch), .val (.ref r_1608), .val (.ref b1611), .val (.int (1 : Int32)), .val rv_1661, .val rv_1665, .val rv_1669, .val rv_1665, .unset, .unset, .unset] [.null, (.ref b1865), (.ref b1865)]))
      have g1866 : n0 ≤ b1865 := Nat.le_trans (own_nl O1863) (Nat.le_of_eq g1865.symm)
      have O1868 : Old Z n0 h1865 := O1863.ext E1865
      obtain ⟨T1867, v1867, L1867, X1867, hQ1867, st1867⟩ := own_callN X1865 hx hZ (y := own_y_558) rfl hown (own_w hw 29 rfl) (own_w hw 30 rfl) (own_w hw 28 rfl) (own_w hw 31 rfl) own_lm_615 (rmBI l Z a0 hw [] w0 w1 w2 w3 wl wle wd mAL mUL mUR mOA wcs kle kd hS b1865 (.null : Value) h1865 n0 O1868 g1866 rfl A1865 F1865_qualifiers F1865_dependsOn F1865_constructorArguments F1865_constructorArgumentsView F1865_propertyValues F1865_propertyValuesView F1865_watchers F1865_className F1865_autowire F1865_value F1865_abstractDefinition F1865_primary F1865_scope F1865_lazyInit F1865_factoryBeanName F1865_factoryMethodName F1865_initMethodName F1865_destroyMethodName F1865_origin) e1865 own_pd_799 (a := b1865) (argsL := [.null]) (rest := [(.ref b1865)]) rfl rfl (g := (mkF m 152 #[.val (.int k1), .val (.int k2), .val (.int k3), .val (.int fl), .val (.int ch), .val (.ref r_1608), .val (.ref b1611), .val (.int (1 : Int32)), .val rv_1661, .val rv_1665, .val rv_1669, .val rv_1665, .unset, .unset, .unset] [.null, (.ref b1865), (.ref b1865)])) rfl (by rw [hml]; rfl) rfl (hb hby at_152) (W := 1) rfl (by decide) (by decide) (by decide) (by decide)
      obtain ⟨ca_1869, pv_1870, wt_1871, ar_1872, kr_1873, rfl, M1867, K1867, z1874, z1875, z1876, z1877, F1878, F1879, F1880, F1881, F1882, F1883, F1884, F1885, F1886, F1887, F1888, F1889, F1890, F1891, F1892, F1893, F1894, F1895, F1896, F1897, F1898, F1899, F1900, F1901, F1902, F1903, F1904, F1905, F1906, F1907, ne_1908⟩ := hQ1867
      have N1867 := Fr.app N1864 M1867
      refine own_st (fun u_ k_ => st1867 u_ k_) ?_
      show own_Go p e below _ (T1867.setTop (mkF m 155 #[.val (.int k1), .val (.int k2), .val (.int k3), .val (.int fl), .val (.int ch), .val (.ref r_1608), .val (.ref b1611), .val (.int (1 : Int32)), .val rv_1661, .val rv_1665, .val rv_1669, .val rv_1665, .unset, .unset, .unset] [(.ref b1865)]))
      refine own_st (fun u_ k_ => XS.astore X1867.here hx rfl (hb hby at_155) rfl rfl (l' := #[.val (.int k1), .val (.int k2), .val (.int k3), .val (.int fl), .val (.int ch), .val (.ref r_1608), .val (.ref b1611), .val (.int (1 : Int32)), .val rv_1661, .val rv_1665, .val rv_1669, .val rv_1665, .val (.ref b1865), .unset, .unset]) rfl k_) ?_
      refine own_st (fun u_ k_ => XS.aload X1867.here hx rfl (hb hby at_157) rfl rfl k_) ?_
      show own_Go p e below _ (T1867.setTop (mkF m 159 #[.val (.int k1), .val (.int k2), .val (.int k3), .val (.int fl), .val (.int ch), .val (.ref r_1608), .val (.ref b1611), .val (.int (1 : Int32)), .val rv_1661, .val rv_1665, .val rv_1669, .val rv_1665, .val (.ref b1865), .unset, .unset] [(.ref b1865)]))
      refine own_st (fun u_ k_ => XS.aload X1867.here hx rfl (hb hby at_159) rfl ref_1670 k_) ?_
      have O1910 : Old Z n0 T1867.heap := O1868.keep K1867 (allS g1866 all0)
      obtain ⟨T1909, v1909, L1909, X1909, hQ1909, st1909⟩ := own_callV X1867 hx hZ (y := own_y_647) (z := own_y_647) hown (own_w hw 162 rfl) (own_w hw 163 rfl) (notFace_of_selects (args := #[]) (mvT hZ (own_w hw 165 rfl))) (own_w hw 165 rfl) (own_w hw 164 rfl) (own_w hw 28 rfl) (own_w hw 166 rfl) own_lm_615 (rmSW l Z a0 hw [] w0 w1 w2 w3 wl wle wd mAL mUL mUR mOA wcs kle kd hS b1865 rv_1669 (.null : Value) ca_1869 pv_1870 wt_1871 ar_1872 kr_1873 (.null : Value) T1867.heap n0 O1910 g1866 ref_1670 F1878 F1879 F1880 F1881 F1882 F1883 F1884 F1885 F1886 F1887 F1888 F1889 F1890 F1891 F1892 F1893 F1894 F1895 F1904 F1905 F1906 F1907 rfl) rfl F1878 own_pd_1077 (argsL := [rv_1669]) (rest := []) rfl rfl (g := (mkF m 161 #[.val (.int k1), .val (.int k2), .val (.int k3), .val (.int fl), .val (.int ch), .val (.ref r_1608), .val (.ref b1611), .val (.int (1 : Int32)), .val rv_1661, .val rv_1665, .val rv_1669, .val rv_1665, .val (.ref b1865), .unset, .unset] [rv_1669, (.ref b1865)])) rfl (by rw [hml]; rfl) rfl (hb hby at_161) (W := 0) rfl (by decide) (by decide) (by decide) (by decide)
      obtain ⟨rfl, M1909, K1909, F1911, F1912, F1913, F1914, F1915, F1916, F1917, F1918, F1919, F1920, F1921, F1922, F1923, F1924, F1925, F1926, F1927, F1928⟩ := hQ1909
      have N1909 := Fr.app N1867 M1909
      refine own_st (fun u_ k_ => st1909 u_ k_) ?_
      show own_Go p e below _ (T1909.setTop (mkF m 164 #[.val (.int k1), .val (.int k2), .val (.int k3), .val (.int fl), .val (.int ch), .val (.ref r_1608), .val (.ref b1611), .val (.int (1 : Int32)), .val rv_1661, .val rv_1665, .val rv_1669, .val rv_1665, .val (.ref b1865), .unset, .unset] []))
      refine own_st (fun u_ k_ => XS.aload X1909.here hx rfl (hb hby at_164) rfl rfl k_) ?_
      refine own_st (fun u_ k_ => XS.aload X1909.here hx rfl (hb hby at_166) rfl rfl k_) ?_
      show own_Go p e below _ (T1909.setTop (mkF m 168 #[.val (.int k1), .val (.int k2), .val (.int k3), .val (.int fl), .val (.int ch), .val (.ref r_1608), .val (.ref b1611), .val (.int (1 : Int32)), .val rv_1661, .val rv_1665, .val rv_1669, .val rv_1665, .val (.ref b1865), .unset, .unset] [(.ref b1865), (.ref b1611)]))
      have F1929 := (((Exa.ext E1865 F1844).keep K1867).keep K1909)
      have ne1930 : b1611 ≠ b1865 := (Nat.ne_of_lt (Nat.lt_of_lt_of_le F1844.lt (Nat.le_of_eq g1865.symm)))
      have F1931 := (((Fld.ext E1865 F1845).keep K1867 (ninS ne1930 nin0)).keep K1909 (ninS ne1930 nin0))
      have F1932 := (((Fld.ext E1865 F1846).keep K1867 (ninS ne1930 nin0)).keep K1909 (ninS ne1930 nin0))
      have F1933 := (((Fld.ext E1865 F1847).keep K1867 (ninS ne1930 nin0)).keep K1909 (ninS ne1930 nin0))
      have F1934 := (((Fld.ext E1865 F1848).keep K1867 (ninS ne1930 nin0)).keep K1909 (ninS ne1930 nin0))
      have F1935 := (((Fld.ext E1865 F1849).keep K1867 (ninS ne1930 nin0)).keep K1909 (ninS ne1930 nin0))
      have F1936 := (((Fld.ext E1865 F1850).keep K1867 (ninS ne1930 nin0)).keep K1909 (ninS ne1930 nin0))
      have F1937 := (((Fld.ext E1865 F1851).keep K1867 (ninS ne1930 nin0)).keep K1909 (ninS ne1930 nin0))
      have F1938 := (((Fld.ext E1865 F1852).keep K1867 (ninS ne1930 nin0)).keep K1909 (ninS ne1930 nin0))
      have F1939 := (((Fld.ext E1865 F1853).keep K1867 (ninS ne1930 nin0)).keep K1909 (ninS ne1930 nin0))
      have F1940 := (((Fld.ext E1865 F1854).keep K1867 (ninS ne1930 nin0)).keep K1909 (ninS ne1930 nin0))
      have F1941 := (((Fld.ext E1865 F1855).keep K1867 (ninS ne1930 nin0)).keep K1909 (ninS ne1930 nin0))
      have F1942 := (((Fld.ext E1865 F1856).keep K1867 (ninS ne1930 nin0)).keep K1909 (ninS ne1930 nin0))
      have F1943 := (((Fld.ext E1865 F1857).keep K1867 (ninS ne1930 nin0)).keep K1909 (ninS ne1930 nin0))
      have F1944 := (((Fld.ext E1865 F1858).keep K1867 (ninS ne1930 nin0)).keep K1909 (ninS ne1930 nin0))
      have F1945 := (((Fld.ext E1865 F1859).keep K1867 (ninS ne1930 nin0)).keep K1909 (ninS ne1930 nin0))
      have F1946 := (((Fld.ext E1865 F1860).keep K1867 (ninS ne1930 nin0)).keep K1909 (ninS ne1930 nin0))
      have F1947 := (((Fld.ext E1865 F1861).keep K1867 (ninS ne1930 nin0)).keep K1909 (ninS ne1930 nin0))
      have F1948 := (((Exa.ext E1865 ((F1643.keep K1672).keep K1843)).keep K1867).keep K1909)
      have ne1949 : ca_1616 ≠ b1611 := (Ne.symm (Nat.ne_of_lt (Nat.lt_of_lt_of_le F1611_constructorArgumentsView.lt z1621)))
      have ne1950 : ca_1616 ≠ b1865 := (Nat.ne_of_lt (Nat.lt_of_lt_of_le (Nat.lt_of_lt_of_le F1643.lt (Nat.le_trans K1672.1 K1843.1)) (Nat.le_of_eq g1865.symm)))
      have F1951 := (((Fld.ext E1865 ((F1644.keep K1672 (ninS ne1949 nin0)).keep K1843 (ninS ne1949 nin0))).keep K1867 (ninS ne1950 nin0)).keep K1909 (ninS ne1950 nin0))
      have F1952 := (((Fld.ext E1865 ((F1645.keep K1672 (ninS ne1949 nin0)).keep K1843 (ninS ne1949 nin0))).keep K1867 (ninS ne1950 nin0)).keep K1909 (ninS ne1950 nin0))
      have F1953 := (((Fld.ext E1865 ((F1646.keep K1672 (ninS ne1949 nin0)).keep K1843 (ninS ne1949 nin0))).keep K1867 (ninS ne1950 nin0)).keep K1909 (ninS ne1950 nin0))
      have F1954 := (((Exa.ext E1865 ((F1647.keep K1672).keep K1843)).keep K1867).keep K1909)
      have ne1955 : pv_1617 ≠ b1611 := (Ne.symm (Nat.ne_of_lt (Nat.lt_of_lt_of_le F1611_constructorArgumentsView.lt z1622)))
      have ne1956 : pv_1617 ≠ b1865 := (Nat.ne_of_lt (Nat.lt_of_lt_of_le (Nat.lt_of_lt_of_le F1647.lt (Nat.le_trans K1672.1 K1843.1)) (Nat.le_of_eq g1865.symm)))
      have F1957 := (((Fld.ext E1865 ((F1648.keep K1672 (ninS ne1955 nin0)).keep K1843 (ninS ne1955 nin0))).keep K1867 (ninS ne1956 nin0)).keep K1909 (ninS ne1956 nin0))
      have F1958 := (((Fld.ext E1865 ((F1649.keep K1672 (ninS ne1955 nin0)).keep K1843 (ninS ne1955 nin0))).keep K1867 (ninS ne1956 nin0)).keep K1909 (ninS ne1956 nin0))
      have F1959 := (((Fld.ext E1865 ((F1650.keep K1672 (ninS ne1955 nin0)).keep K1843 (ninS ne1955 nin0))).keep K1867 (ninS ne1956 nin0)).keep K1909 (ninS ne1956 nin0))
      have F1960 := (F1896.keep K1909)
      have ne1961 : ca_1869 ≠ b1865 := (Ne.symm (Nat.ne_of_lt (Nat.lt_of_lt_of_le F1865_constructorArgumentsView.lt z1874)))
      have F1962 := (F1897.keep K1909 (ninS ne1961 nin0))
      have F1963 := (F1898.keep K1909 (ninS ne1961 nin0))
      have F1964 := (F1899.keep K1909 (ninS ne1961 nin0))
      have F1965 := (F1900.keep K1909)
      have ne1966 : pv_1870 ≠ b1865 := (Ne.symm (Nat.ne_of_lt (Nat.lt_of_lt_of_le F1865_constructorArgumentsView.lt z1875)))
      have F1967 := (F1901.keep K1909 (ninS ne1966 nin0))
      have F1968 := (F1902.keep K1909 (ninS ne1966 nin0))
      have F1969 := (F1903.keep K1909 (ninS ne1966 nin0))
      have F1970 := (((Exa.ext E1865 ((((Exa.ext E1611 F1610).keep K1614).keep K1672).keep K1843)).keep K1867).keep K1909)
      have O1972 : Old Z n0 T1909.heap := O1910.keep K1909 (allS g1866 all0)
      obtain ⟨T1971, v1971, L1971, X1971, hQ1971, st1971⟩ := own_callV X1909 hx hZ (y := own_y_1073) (z := own_y_1073) hown (own_w hw 209 rfl) (own_w hw 210 rfl) (notFace_of_selects (args := #[]) (mvT hZ (own_w hw 212 rfl))) (own_w hw 212 rfl) (own_w hw 211 rfl) (own_w hw 28 rfl) (own_w hw 213 rfl) own_lm_615 (rmMR l Z a0 hw [] w0 w1 w2 w3 wl wle wd mAL mUL mUR mOA wcs kle kd hS b1611 b1865 r_1608 ca_1616 pv_1617 wt_1618 rv_1665 ca_1869 pv_1870 wt_1871 rv_1669 T1909.heap n0 O1972 F1929 F1931 F1932 F1933 F1934 F1935 F1936 F1937 F1938 F1939 F1940 F1941 F1942 F1943 F1944 F1945 F1946 F1947 F1911 F1912 F1913 F1914 F1915 F1916 F1917 F1918 F1919 F1920 F1921 F1922 F1923 F1924 F1925 F1926 F1927 F1928 F1948 F1951 F1952 F1953 F1954 F1957 F1958 F1959 F1960 F1962 F1963 F1964 F1965 F1967 F1968 F1969 F1970 ref_1666 ref_1670 aw_1667 aw_1671) rfl F1929 own_pd_1079 (argsL := [(.ref b1865)]) (rest := []) rfl rfl (g := (mkF m 168 #[.val (.int k1), .val (.int k2), .val (.int k3), .val (.int fl), .val (.int ch), .val (.ref r_1608), .val (.ref b1611), .val (.int (1 : Int32)), .val rv_1661, .val rv_1665, .val rv_1669, .val rv_1665, .val (.ref b1865), .unset, .unset] [(.ref b1865), (.ref b1611)])) rfl (by rw [hml]; rfl) rfl (hb hby at_168) (W := 0) rfl (by decide) (by decide) (by decide) (by decide)
      obtain ⟨r_1973, u3_1974, rfl, M1971, K1971, z1975, F1976, F1977, eq_1978⟩ := hQ1971
      have N1971 := Fr.app N1909 M1971
      subst eq_1978
      refine own_st (fun u_ k_ => st1971 u_ k_) ?_
      show own_Go p e below _ (T1971.setTop (mkF m 171 #[.val (.int k1), .val (.int k2), .val (.int k3), .val (.int fl), .val (.int ch), .val (.ref r_1608), .val (.ref b1611), .val (.int (1 : Int32)), .val rv_1661, .val rv_1665, .val rv_1669, .val rv_1665, .val (.ref b1865), .unset, .unset] [(.ref r_1973)]))
      refine own_st (fun u_ k_ => XS.astore X1971.here hx rfl (hb hby at_171) rfl rfl (l' := #[.val (.int k1), .val (.int k2), .val (.int k3), .val (.int fl), .val (.int ch), .val (.ref r_1608), .val (.ref b1611), .val (.int (1 : Int32)), .val rv_1661, .val rv_1665, .val rv_1669, .val rv_1665, .val (.ref b1865), .val (.ref r_1973), .unset]) rfl k_) ?_
      refine own_st (fun u_ k_ => XS.aload X1971.here hx rfl (hb hby at_173) rfl ref_1666 k_) ?_
      show own_Go p e below _ (T1971.setTop (mkF m 175 #[.val (.int k1), .val (.int k2), .val (.int k3), .val (.int fl), .val (.int ch), .val (.ref r_1608), .val (.ref b1611), .val (.int (1 : Int32)), .val rv_1661, .val rv_1665, .val rv_1669, .val rv_1665, .val (.ref b1865), .val (.ref r_1973), .unset] [rv_1665]))
      rcases ref_cases ref_1666 with rfl | ⟨r1979, rfl⟩
      · show own_Go p e below _ (T1971.setTop (mkF m 175 #[.val (.int k1), .val (.int k2), .val (.int k3), .val (.int fl), .val (.int ch), .val (.ref r_1608), .val (.ref b1611), .val (.int (1 : Int32)), .val rv_1661, .val .null, .val rv_1669, .val .null, .val (.ref b1865), .val (.ref r_1973), .unset] [.null]))
        refine own_st (fun u_ k_ => XS.ifnullYes X1971.here hx rfl (pc0 := 175) (pc' := 183) rfl (hb hby at_175) rfl (by decide) (by decide) k_) ?_
        refine own_st (fun u_ k_ => XS.aload X1971.here hx rfl (hb hby at_183) rfl ref_1670 k_) ?_
        show own_Go p e below _ (T1971.setTop (mkF m 185 #[.val (.int k1), .val (.int k2), .val (.int k3), .val (.int fl), .val (.int ch), .val (.ref r_1608), .val (.ref b1611), .val (.int (1 : Int32)), .val rv_1661, .val .null, .val rv_1669, .val .null, .val (.ref b1865), .val (.ref r_1973), .unset] [rv_1669]))
        have O1981 : Old Z n0 T1971.heap := O1972.keep K1971 all0
        obtain ⟨T1980, v1980, L1980, X1980, hQ1980, st1980⟩ := own_callS X1971 hx hZ (y := own_y_576) hown (own_w hw 206 rfl) (own_w hw 207 rfl) (own_w hw 155 rfl) (own_w hw 208 rfl) own_lm_1075 (rmON l Z a0 hw [] w0 w1 w2 w3 wl wle wd mAL mUL mUR mOA wcs kle kd hS rv_1669 T1971.heap n0 O1981 ref_1670) rfl own_pd_1078 (argsL := [rv_1669]) (rest := []) rfl rfl (g := (mkF m 185 #[.val (.int k1), .val (.int k2), .val (.int k3), .val (.int fl), .val (.int ch), .val (.ref r_1608), .val (.ref b1611), .val (.int (1 : Int32)), .val rv_1661, .val .null, .val rv_1669, .val .null, .val (.ref b1865), .val (.ref r_1973), .unset] [rv_1669])) rfl (by rw [hml]; rfl) rfl (hb hby at_185) (W := 0) rfl (by decide) (by decide) (by decide) (by decide)
        obtain ⟨rfl, M1980, e1980⟩ := hQ1980
        have N1980 := Fr.app N1971 M1980
        refine own_st (fun u_ k_ => st1980 u_ k_) ?_
        show own_Go p e below _ (T1980.setTop (mkF m 188 #[.val (.int k1), .val (.int k2), .val (.int k3), .val (.int fl), .val (.int ch), .val (.ref r_1608), .val (.ref b1611), .val (.int (1 : Int32)), .val rv_1661, .val .null, .val rv_1669, .val .null, .val (.ref b1865), .val (.ref r_1973), .unset] [(own_or rv_1669 (.ref w0))]))
        refine own_st (fun u_ k_ => XS.astoreS X1980.here hx rfl (hb hby at_188) rfl (own_orR (w := .ref w0) ref_1670 rfl) (XT.cat1 (own_orR (w := .ref w0) ref_1670 rfl)) rfl (Or.inl rfl) k_) ?_
        refine own_st (fun u_ k_ => XS.iload X1980.here hx rfl (hb hby at_190) rfl k_) ?_
        show own_Go p e below _ (T1980.setTop (mkF m 192 #[.val (.int k1), .val (.int k2), .val (.int k3), .val (.int fl), .val (.int ch), .val (.ref r_1608), .val (.ref b1611), .val (.int (1 : Int32)), .val rv_1661, .val .null, .val rv_1669, .val .null, .val (.ref b1865), .val (.ref r_1973), .val (own_or rv_1669 (.ref w0))] [(.int (1 : Int32))]))
        refine own_st (fun u_ k_ => XS.ifNo X1980.here hx rfl (hb hby at_192) rfl (XT.i0_eq_f (by decide)) k_) ?_
        refine own_st (fun u_ k_ => XS.aload X1980.here hx rfl (hb hby at_195) rfl rfl k_) ?_
        show own_Go p e below _ (T1980.setTop (mkF m 197 #[.val (.int k1), .val (.int k2), .val (.int k3), .val (.int fl), .val (.int ch), .val (.ref r_1608), .val (.ref b1611), .val (.int (1 : Int32)), .val rv_1661, .val .null, .val rv_1669, .val .null, .val (.ref b1865), .val (.ref r_1973), .val (own_or rv_1669 (.ref w0))] [(.ref r_1973)]))
        obtain ⟨T1982, v1982, L1982, X1982, hQ1982, st1982⟩ := own_callV X1980 hx hZ (y := own_y_569) (z := own_y_569) hown (own_w hw 142 rfl) (own_w hw 143 rfl) (notFace_of_selects (args := #[]) (mvT hZ (own_w hw 145 rfl))) (own_w hw 145 rfl) (own_w hw 144 rfl) (own_w hw 28 rfl) (own_w hw 146 rfl) own_lm_615 (rmGW l Z a0 hw [] w0 w1 w2 w3 wl wle wd mAL mUL mUR mOA wcs kle kd hS r_1973 (own_or (.null : Value) rv_1669) T1971.heap n0 O1981 F1977 (own_orR ref_1666 ref_1670)) e1980 F1976 own_pd_1074 (argsL := []) (rest := []) rfl rfl (g := (mkF m 197 #[.val (.int k1), .val (.int k2), .val (.int k3), .val (.int fl), .val (.int ch), .val (.ref r_1608), .val (.ref b1611), .val (.int (1 : Int32)), .val rv_1661, .val .null, .val rv_1669, .val .null, .val (.ref b1865), .val (.ref r_1973), .val (own_or rv_1669 (.ref w0))] [(.ref r_1973)])) rfl (by rw [hml]; rfl) rfl (hb hby at_197) (W := 0) rfl (by decide) (by decide) (by decide) (by decide)
        obtain ⟨rfl, M1982, e1982⟩ := hQ1982
        have N1982 := Fr.app N1980 M1982
        refine own_st (fun u_ k_ => st1982 u_ k_) ?_
        show own_Go p e below _ (T1982.setTop (mkF m 200 #[.val (.int k1), .val (.int k2), .val (.int k3), .val (.int fl), .val (.int ch), .val (.ref r_1608), .val (.ref b1611), .val (.int (1 : Int32)), .val rv_1661, .val .null, .val rv_1669, .val .null, .val (.ref b1865), .val (.ref r_1973), .val (own_or rv_1669 (.ref w0))] [(own_or (own_or (.null : Value) rv_1669) (.ref w0))]))
        refine own_st (fun u_ k_ => XS.aload X1982.here hx rfl (hb hby at_200) rfl (own_orR (w := .ref w0) ref_1670 rfl) k_) ?_
        refine own_st (fun u_ k_ => XT.acmpNo X1982.here hx rfl (hb hby at_202) rfl (own_orR (w := .ref w0) (own_orR ref_1666 ref_1670) rfl) (own_orR (w := .ref w0) ref_1670 rfl) (XT.aa_ne_f rfl) k_) ?_
        show own_Go p e below _ (T1982.setTop (mkF m 205 #[.val (.int k1), .val (.int k2), .val (.int k3), .val (.int fl), .val (.int ch), .val (.ref r_1608), .val (.ref b1611), .val (.int (1 : Int32)), .val rv_1661, .val .null, .val rv_1669, .val .null, .val (.ref b1865), .val (.ref r_1973), .val (own_or rv_1669 (.ref w0))] []))
        refine own_st (fun u_ k_ => XS.iconst X1982.here hx rfl (hb hby at_205) k_) ?_
        refine own_st (fun u_ k_ => XS.goto X1982.here hx rfl (pc0 := 206) (pc' := 210) rfl (hb hby at_206) (by decide) (by decide) k_) ?_
        show own_Go p e below _ (T1982.setTop (mkF m 210 #[.val (.int k1), .val (.int k2), .val (.int k3), .val (.int fl), .val (.int ch), .val (.ref r_1608), .val (.ref b1611), .val (.int (1 : Int32)), .val rv_1661, .val .null, .val rv_1669, .val .null, .val (.ref b1865), .val (.ref r_1973), .val (own_or rv_1669 (.ref w0))] [(.int (1 : Int32))]))
        refine own_st (fun u_ k_ => XS.istore X1982.here hx rfl (hb hby at_210) rfl (l' := #[.val (.int k1), .val (.int k2), .val (.int k3), .val (.int fl), .val (.int ch), .val (.ref r_1608), .val (.ref b1611), .val (.int (1 : Int32)), .val rv_1661, .val .null, .val rv_1669, .val .null, .val (.ref b1865), .val (.ref r_1973), .val (own_or rv_1669 (.ref w0))]) rfl k_) ?_
        refine own_st (fun u_ k_ => XS.iload X1982.here hx rfl (hb hby at_212) rfl k_) ?_
        show own_Go p e below _ (T1982.setTop (mkF m 214 #[.val (.int k1), .val (.int k2), .val (.int k3), .val (.int fl), .val (.int ch), .val (.ref r_1608), .val (.ref b1611), .val (.int (1 : Int32)), .val rv_1661, .val .null, .val rv_1669, .val .null, .val (.ref b1865), .val (.ref r_1973), .val (own_or rv_1669 (.ref w0))] [(.int (1 : Int32))]))
        have K1983 : Keep h0 T1607.heap [] := (Keep.refl h0 []).trans K1607 all0
        have K1984 : Keep h0 h1611 [] := K1983.ext E1611
        have z1986 : h0.size ≤ b1611 := Nat.le_trans K1607.1 (Nat.le_of_eq g1611.symm)
        have K1985 : Keep h0 T1614.heap [] := K1984.trans K1614 (allS (Or.inr z1986) all0)
        have K1987 : Keep h0 T1672.heap [] := K1985.trans K1672 (allS (Or.inr z1986) all0)
        have K1988 : Keep h0 T1843.heap [] := K1987.trans K1843 (allS (Or.inr z1986) all0)
        have K1989 : Keep h0 h1865 [] := K1988.ext E1865
        have z1991 : h0.size ≤ b1865 := Nat.le_trans (Nat.le_trans (Nat.le_trans (Nat.le_trans (Nat.le_trans K1607.1 E1611.1) K1614.1) K1672.1) K1843.1) (Nat.le_of_eq g1865.symm)
        have K1990 : Keep h0 T1867.heap [] := K1989.trans K1867 (allS (Or.inr z1991) all0)
        have K1992 : Keep h0 T1909.heap [] := K1990.trans K1909 (allS (Or.inr z1991) all0)
        have K1993 : Keep h0 T1971.heap [] := K1992.trans K1971 all0
        exact own_retX X1982 hx hlk hret rfl (Or.inl ⟨rfl, by simp, _, rfl⟩) (hb hby at_214) (by decide) (by decide) (show Qrm0 Z w0 w1 w2 w3 wl wle wd mAL mUL mUR mOA wcs kle kd k1 k2 k3 fl ch h0 n0 (some (.int (1 : Int32))) T1982.heap _ from (by rw [e1982]; exact ⟨rfl, N1982, K1993⟩))
      · show own_Go p e below _ (T1971.setTop (mkF m 175 #[.val (.int k1), .val (.int k2), .val (.int k3), .val (.int fl), .val (.int ch), .val (.ref r_1608), .val (.ref b1611), .val (.int (1 : Int32)), .val rv_1661, .val (.ref r1979), .val rv_1669, .val (.ref r1979), .val (.ref b1865), .val (.ref r_1973), .unset] [(.ref r1979)]))
        refine own_st (fun u_ k_ => XS.ifnullNo X1971.here hx rfl (hb hby at_175) rfl k_) ?_
        refine own_st (fun u_ k_ => XS.aload X1971.here hx rfl (hb hby at_178) rfl rfl k_) ?_
        show own_Go p e below _ (T1971.setTop (mkF m 180 #[.val (.int k1), .val (.int k2), .val (.int k3), .val (.int fl), .val (.int ch), .val (.ref r_1608), .val (.ref b1611), .val (.int (1 : Int32)), .val rv_1661, .val (.ref r1979), .val rv_1669, .val (.ref r1979), .val (.ref b1865), .val (.ref r_1973), .unset] [(.ref r1979)]))
        refine own_st (fun u_ k_ => XS.goto X1971.here hx rfl (pc0 := 180) (pc' := 188) rfl (hb hby at_180) (by decide) (by decide) k_) ?_
        refine own_st (fun u_ k_ => XS.astore X1971.here hx rfl (hb hby at_188) rfl rfl (l' := #[.val (.int k1), .val (.int k2), .val (.int k3), .val (.int fl), .val (.int ch), .val (.ref r_1608), .val (.ref b1611), .val (.int (1 : Int32)), .val rv_1661, .val (.ref r1979), .val rv_1669, .val (.ref r1979), .val (.ref b1865), .val (.ref r_1973), .val (.ref r1979)]) rfl k_) ?_
        show own_Go p e below _ (T1971.setTop (mkF m 190 #[.val (.int k1), .val (.int k2), .val (.int k3), .val (.int fl), .val (.int ch), .val (.ref r_1608), .val (.ref b1611), .val (.int (1 : Int32)), .val rv_1661, .val (.ref r1979), .val rv_1669, .val (.ref r1979), .val (.ref b1865), .val (.ref r_1973), .val (.ref r1979)] []))
        refine own_st (fun u_ k_ => XS.iload X1971.here hx rfl (hb hby at_190) rfl k_) ?_
        refine own_st (fun u_ k_ => XS.ifNo X1971.here hx rfl (hb hby at_192) rfl (XT.i0_eq_f (by decide)) k_) ?_
        show own_Go p e below _ (T1971.setTop (mkF m 195 #[.val (.int k1), .val (.int k2), .val (.int k3), .val (.int fl), .val (.int ch), .val (.ref r_1608), .val (.ref b1611), .val (.int (1 : Int32)), .val rv_1661, .val (.ref r1979), .val rv_1669, .val (.ref r1979), .val (.ref b1865), .val (.ref r_1973), .val (.ref r1979)] []))
        refine own_st (fun u_ k_ => XS.aload X1971.here hx rfl (hb hby at_195) rfl rfl k_) ?_
        have O1995 : Old Z n0 T1971.heap := O1972.keep K1971 all0
        obtain ⟨T1994, v1994, L1994, X1994, hQ1994, st1994⟩ := own_callV X1971 hx hZ (y := own_y_569) (z := own_y_569) hown (own_w hw 142 rfl) (own_w hw 143 rfl) (notFace_of_selects (args := #[]) (mvT hZ (own_w hw 145 rfl))) (own_w hw 145 rfl) (own_w hw 144 rfl) (own_w hw 28 rfl) (own_w hw 146 rfl) own_lm_615 (rmGW l Z a0 hw [] w0 w1 w2 w3 wl wle wd mAL mUL mUR mOA wcs kle kd hS r_1973 (own_or ((.ref r1979) : Value) rv_1669) T1971.heap n0 O1995 F1977 (own_orR ref_1666 ref_1670)) rfl F1976 own_pd_1074 (argsL := []) (rest := []) rfl rfl (g := (mkF m 197 #[.val (.int k1), .val (.int k2), .val (.int k3), .val (.int fl), .val (.int ch), .val (.ref r_1608), .val (.ref b1611), .val (.int (1 : Int32)), .val rv_1661, .val (.ref r1979), .val rv_1669, .val (.ref r1979), .val (.ref b1865), .val (.ref r_1973), .val (.ref r1979)] [(.ref r_1973)])) rfl (by rw [hml]; rfl) rfl (hb hby at_197) (W := 0) rfl (by decide) (by decide) (by decide) (by decide)
        obtain ⟨rfl, M1994, e1994⟩ := hQ1994
        have N1994 := Fr.app N1971 M1994
        refine own_st (fun u_ k_ => st1994 u_ k_) ?_
        show own_Go p e below _ (T1994.setTop (mkF m 200 #[.val (.int k1), .val (.int k2), .val (.int k3), .val (.int fl), .val (.int ch), .val (.ref r_1608), .val (.ref b1611), .val (.int (1 : Int32)), .val rv_1661, .val (.ref r1979), .val rv_1669, .val (.ref r1979), .val (.ref b1865), .val (.ref r_1973), .val (.ref r1979)] [(own_or (own_or ((.ref r1979) : Value) rv_1669) (.ref w0))]))
        refine own_st (fun u_ k_ => XS.aload X1994.here hx rfl (hb hby at_200) rfl rfl k_) ?_
        refine own_st (fun u_ k_ => XT.acmpNo X1994.here hx rfl (hb hby at_202) rfl (own_orR (w := .ref w0) (own_orR ref_1666 ref_1670) rfl) rfl (XT.aa_ne_f rfl) k_) ?_
        show own_Go p e below _ (T1994.setTop (mkF m 205 #[.val (.int k1), .val (.int k2), .val (.int k3), .val (.int fl), .val (.int ch), .val (.ref r_1608), .val (.ref b1611), .val (.int (1 : Int32)), .val rv_1661, .val (.ref r1979), .val rv_1669, .val (.ref r1979), .val (.ref b1865), .val (.ref r_1973), .val (.ref r1979)] []))
        refine own_st (fun u_ k_ => XS.iconst X1994.here hx rfl (hb hby at_205) k_) ?_
        refine own_st (fun u_ k_ => XS.goto X1994.here hx rfl (pc0 := 206) (pc' := 210) rfl (hb hby at_206) (by decide) (by decide) k_) ?_
        show own_Go p e below _ (T1994.setTop (mkF m 210 #[.val (.int k1), .val (.int k2), .val (.int k3), .val (.int fl), .val (.int ch), .val (.ref r_1608), .val (.ref b1611), .val (.int (1 : Int32)), .val rv_1661, .val (.ref r1979), .val rv_1669, .val (.ref r1979), .val (.ref b1865), .val (.ref r_1973), .val (.ref r1979)] [(.int (1 : Int32))]))
        refine own_st (fun u_ k_ => XS.istore X1994.here hx rfl (hb hby at_210) rfl (l' := #[.val (.int k1), .val (.int k2), .val (.int k3), .val (.int fl), .val (.int ch), .val (.ref r_1608), .val (.ref b1611), .val (.int (1 : Int32)), .val rv_1661, .val (.ref r1979), .val rv_1669, .val (.ref r1979), .val (.ref b1865), .val (.ref r_1973), .val (.ref r1979)]) rfl k_) ?_
        refine own_st (fun u_ k_ => XS.iload X1994.here hx rfl (hb hby at_212) rfl k_) ?_
        show own_Go p e below _ (T1994.setTop (mkF m 214 #[.val (.int k1), .val (.int k2), .val (.int k3), .val (.int fl), .val (.int ch), .val (.ref r_1608), .val (.ref b1611), .val (.int (1 : Int32)), .val rv_1661, .val (.ref r1979), .val rv_1669, .val (.ref r1979), .val (.ref b1865), .val (.ref r_1973), .val (.ref r1979)] [(.int (1 : Int32))]))
        have K1996 : Keep h0 T1607.heap [] := (Keep.refl h0 []).trans K1607 all0
        have K1997 : Keep h0 h1611 [] := K1996.ext E1611
        have z1999 : h0.size ≤ b1611 := Nat.le_trans K1607.1 (Nat.le_of_eq g1611.symm)
        have K1998 : Keep h0 T1614.heap [] := K1997.trans K1614 (allS (Or.inr z1999) all0)
        have K2000 : Keep h0 T1672.heap [] := K1998.trans K1672 (allS (Or.inr z1999) all0)
        have K2001 : Keep h0 T1843.heap [] := K2000.trans K1843 (allS (Or.inr z1999) all0)
        have K2002 : Keep h0 h1865 [] := K2001.ext E1865
        have z2004 : h0.size ≤ b1865 := Nat.le_trans (Nat.le_trans (Nat.le_trans (Nat.le_trans (Nat.le_trans K1607.1 E1611.1) K1614.1) K1672.1) K1843.1) (Nat.le_of_eq g1865.symm)
        have K2003 : Keep h0 T1867.heap [] := K2002.trans K1867 (allS (Or.inr z2004) all0)
        have K2005 : Keep h0 T1909.heap [] := K2003.trans K1909 (allS (Or.inr z2004) all0)
        have K2006 : Keep h0 T1971.heap [] := K2005.trans K1971 all0
        exact own_retX X1994 hx hlk hret rfl (Or.inl ⟨rfl, by simp, _, rfl⟩) (hb hby at_214) (by decide) (by decide) (show Qrm0 Z w0 w1 w2 w3 wl wle wd mAL mUL mUR mOA wcs kle kd k1 k2 k3 fl ch h0 n0 (some (.int (1 : Int32))) T1994.heap _ from (by rw [e1994]; exact ⟨rfl, N1994, K2006⟩))
set_option maxRecDepth 65536 in
set_option maxHeartbeats 40000000 in
theorem comes_1 {Post : Tables → Env → Array Value → State → Outcome → State → Prop} (hpost : ∀ tb e args s v u, (limb_1_1.after args s (.returned v) u = true ∧ limb_1_2.after args s (.returned v) u = true ∧ True) → FrameEnd s (.returned v) u (Jvm.fieldLocs frame_1_writes args s ++ Jvm.arrayLocs frame_1_arrays args s ++ Jvm.staticLocs frame_1_statics s) 72 320 → Post tb e args s (.returned v) u) :
    ArmFor flags0 classFile x code maxLocals ret World_1 tables_1 room_1 Calls_1 rest_1 Pre_1 Post := by
  intro l hfl _ _ p e ha hc hk s m args below hf hA hF happ hP
  obtain ⟨hcalls, hrest, hpre⟩ := hP
  obtain ⟨-, -, -, hnamed, -, -, -, hat⟩ := (Spec.applies_iff hf).mp happ
  obtain ⟨hg, hn⟩ := and_e (Cond.before_iff.mp (show (Jvm.Cond.and given_1 narrow_1).before args s = true from hpre))
  obtain ⟨hcount, hr0⟩ := and_e hg
  obtain ⟨ha0, hr1⟩ := and_e hr0
  obtain ⟨ha1, hr2⟩ := and_e hr1
  obtain ⟨ha2, hr3⟩ := and_e hr2
  obtain ⟨ha3, hr4⟩ := and_e hr3
  have ha4 := hr4
  obtain ⟨w_0, w_1, w_2, w_3, w_4, rfl⟩ : ∃ w_0 w_1 w_2 w_3 w_4 : Value, args = #[w_0, w_1, w_2, w_3, w_4] := by
    have hs : args.size = 5 := by simpa [Cond.value, given_1] using hcount
    obtain ⟨L⟩ := args
    match L, hs with
    | [w_0, w_1, w_2, w_3, w_4], _ => exact ⟨w_0, w_1, w_2, w_3, w_4, rfl⟩
  have hw := fun d (hd : d ∈ tables_1) => atoms_spec (ws := Jvm.Cond.code x code maxLocals ret :: tables_1) hat d (List.mem_cons_of_mem _ hd)
  have hfit : Fit s := fun {y c} hc i hi => by
    obtain ⟨ha, rfl⟩ := Array.getElem?_eq_some_iff.mp hc
    have q := List.all_eq_true.mp ((Array.all_eq_true_iff_forall_mem.mp hF) _ (Array.getElem_mem ha)) i (List.mem_range.mpr hi)
    simpa [Array.getElem?_eq_getElem hi] using q
  obtain ⟨i_0, ei_0⟩ := is_v ha0
  obtain rfl : w_0 = (.int i_0) := Option.some.inj ei_0
  obtain ⟨i_1, ei_1⟩ := is_v ha1
  obtain rfl : w_1 = (.int i_1) := Option.some.inj ei_1
  obtain ⟨i_2, ei_2⟩ := is_v ha2
  obtain rfl : w_2 = (.int i_2) := Option.some.inj ei_2
  obtain ⟨i_3, ei_3⟩ := is_v ha3
  obtain rfl : w_3 = (.int i_3) := Option.some.inj ei_3
  obtain ⟨i_4, ei_4⟩ := is_v ha4
  obtain rfl : w_4 = (.int i_4) := Option.some.inj ei_4
  obtain ⟨hl0, hn0⟩ := and_e hn
  obtain ⟨hl1, hn1⟩ := and_e hn0
  obtain ⟨hl2, hn2⟩ := and_e hn1
  have hl3 := hn2
  obtain ⟨hsets, hown0⟩ := atoms_of _ (rest_1_c_eq ▸ (show rest_1_c.before _ s = true from hrest))
  obtain ⟨w0, e_w0⟩ := exa_v hl0
  obtain ⟨w1, e_w1⟩ := exa_v hl1
  obtain ⟨w2, e_w2⟩ := exa_v hl2
  obtain ⟨w3, e_w3⟩ := exa_v hl3
  obtain ⟨wcs, ecs⟩ := is_v (Cond.before_iff.mp (hsets _ (List.mem_of_getElem? (i := 1) rfl)))
  have hcs := own_stne ecs (Cond.before_iff.mp (hsets _ (List.mem_of_getElem? (i := 2) rfl)))
  obtain ⟨wl, ewl⟩ := exa_v (Cond.before_iff.mp (hsets _ (List.mem_of_getElem? (i := 11) rfl)))
  obtain ⟨wle, ewle⟩ := arr_v (Cond.before_iff.mp (hsets _ (List.mem_of_getElem? (i := 12) rfl)))
  obtain ⟨cle, hcle⟩ := Arr.start ewle (Cond.before_iff.mp (hsets _ (List.mem_of_getElem? (i := 12) rfl)))
  have hlle := own_len ewle hcle (Cond.before_iff.mp (hsets _ (List.mem_of_getElem? (i := 14) rfl)))
  obtain ⟨kle, hkle⟩ : ∃ z, z = cle.cls := ⟨_, rfl⟩
  obtain ⟨wd, ewd⟩ := arr_v (Cond.before_iff.mp (hsets _ (List.mem_of_getElem? (i := 22) rfl)))
  obtain ⟨cd, hcd⟩ := Arr.start ewd (Cond.before_iff.mp (hsets _ (List.mem_of_getElem? (i := 22) rfl)))
  have hld := own_len ewd hcd (Cond.before_iff.mp (hsets _ (List.mem_of_getElem? (i := 24) rfl)))
  obtain ⟨kd, hkd⟩ : ∃ z, z = cd.cls := ⟨_, rfl⟩
  obtain ⟨⟨c_1, k_1, mAL, q_11, q_12, q_13⟩, ⟨c_2, k_2, mUL, q_21, q_22, q_23⟩, ⟨c_3, k_3, mUR, q_31, q_32, q_33⟩, ⟨c_4, k_4, mOA, q_41, q_42, q_43⟩, _⟩ := hcalls
  have hS : own_S s w0 w1 w2 w3 wl wle wd mAL mUL mUR mOA wcs kle kd := ⟨(Sta.start e_w0 (Or.inr ⟨(own_w hw 150 rfl), (own_w hw 151 rfl)⟩)), (Exa.start e_w0 hl0), (Sta.start e_w1 (Or.inr ⟨(own_w hw 150 rfl), (own_w hw 159 rfl)⟩)), (Exa.start e_w1 hl1), (Sta.start e_w2 (Or.inr ⟨(own_w hw 150 rfl), (own_w hw 161 rfl)⟩)), (Exa.start e_w2 hl2), (Sta.start e_w3 (Or.inr ⟨(own_w hw 150 rfl), (own_w hw 330 rfl)⟩)), (Exa.start e_w3 hl3), (Sta.start ecs (Or.inl (hsets _ (List.mem_of_getElem? (i := 0) rfl)))), hcs, (Sta.start ewl (Or.inl (hsets _ (List.mem_of_getElem? (i := 10) rfl)))), (Exa.start ewl (Cond.before_iff.mp (hsets _ (List.mem_of_getElem? (i := 11) rfl)))), (own_fldR ewl ewle), (hkle ▸ Arv.start hfit hcle hlle.1 hlle.2 (by decide) rfl trivial), (Sta.start ewd (Or.inr ⟨(own_w hw 45 rfl), (hsets _ (List.mem_of_getElem? (i := 18) rfl))⟩)), (Exa.start ewd (Cond.before_iff.mp (hsets _ (List.mem_of_getElem? (i := 23) rfl)))), (hkd ▸ Arv.start hfit hcd hld.1 hld.2 (by decide) rfl trivial), ⟨c_1, k_1, q_11, q_12, q_13⟩, ⟨c_2, k_2, q_21, q_22, q_23⟩, ⟨c_3, k_3, q_31, q_32, q_33⟩, ⟨c_4, k_4, q_41, q_42, q_43⟩⟩
  obtain ⟨n, o, h1, h2, h3, _, L, rfl, ⟨rfl, N, _⟩, hq⟩ := rm0 l s _ hw tables_1 w0 w1 w2 w3 wl wle wd mAL mUL mUR mOA wcs kle kd hS i_0 i_1 i_2 i_3 i_4 s.heap s.heap.size (Old.start s) p e ha hc hk s m _ below hf ((Spec.applies_iff_loose hf).mp happ).1 ⟨rfl, State.Warmed39.refl s, rfl⟩ trivial
  refine ⟨n, _, h1, h2, h3, hpost _ _ _ _ _ _ ⟨Cond.after_iff.mpr rfl, Cond.after_iff.mpr (eq_i res_at (Term.int_eval (1)) rfl), trivial⟩ ⟨hq.1, hq.2.1, (hq.2.2.sift fun y hy => Or.inr (N y hy)).mono (by decide) (by decide)⟩⟩
theorem main_1_1 : Claimed_1_1 := comes_1 fun _ _ _ _ _ _ h hF => ⟨h.1, hF⟩
theorem main_1_2 : Claimed_1_2 := comes_1 fun _ _ _ _ _ _ h hF => ⟨h.2.1, hF⟩
end Jvm.Pilot.@@N@@
namespace Jvm.Pilot.@@N@@
open Jvm Jvm.ClassFile Sem Op Lib Jvm.Free Jvm.Stand Jvm.Pilot.@@N@@.Jvm.D
/-! MADE BY PROGRAM (witnessworld.py) out of the Statement's table words and the real class files: 45 classes; the members and pool entries that the words name. The judged class is class 1, her method 3. -/
namespace start1
open Jvm.ClassFile
def u (s : String) : CpInfo := .utf8 (stringToUtf16 s)
/-- a pool by its gaps: so many unusable entries, then the entry; so many at the end -/
def gap : Nat → List CpInfo → List CpInfo
  | 0, r => r
  | n + 1, r => .unusable :: gap n r
def poolList (es : List (Nat × CpInfo)) (last : Nat) : List CpInfo := es.foldr (fun e r => gap e.1 (e.2 :: r)) (gap last [])
def pool (es : List (Nat × CpInfo)) (last : Nat) : Array CpInfo := ⟨poolList es last⟩
def fileOf (pool : Array CpInfo) (this : Nat) (attrs : Array Attribute := #[]) (ms : Array MethodInfo := #[]) (fl : Nat := 33) (sup : Nat := 0) (ifs : Array Nat := #[]) (fds : Array FieldInfo := #[]) : ClassFile where
  minorVersion := 0
  majorVersion := 65
  constantPool := pool
  accessFlags := fl
  thisClass := this
  superClass := sup
  interfaces := ifs
  fields := fds
  methods := ms
  attributes := attrs
def plain (name : String) (sup : Option ClassId) : Class where
  name := name
  kind := .ordinary
  loader := none
  accessFlags := 33
  super := sup
  interfaces := #[]
  cf := none
  fields := #[]
  methods := #[]
  instanceTypes := #[]
  staticTypes := #[]
  resolved := #[]
  callSites := []
  init := .initialized
  statics := none
  mirror := none

def pool0 : Array CpInfo := pool [(5, u "<init>"), (0, u "()V"), (1, .class_ 10), (1, u "java/lang/Object"), (0, u "getClass"), (0, u "()Ljava/lang/Class;")] 111

def k0c0 : Code := { maxStack := 0, maxLocals := 1, code := object_method_1_code, exceptionTable := #[], attributes := #[] }
def k0m0 : Method := { name := "<init>", desc := "()V", sig := { parameters := [], returnType := none }, accessFlags := 1, code := some k0c0 }
def k0m1 : Method := { name := "getClass", desc := "()Ljava/lang/Class;", sig := { parameters := [], returnType := some (.object "java/lang/Class") }, accessFlags := 273, code := none }
/-- java/lang/Object -/
def k0 : Class := { plain "java/lang/Object" none with
  accessFlags := 33
  interfaces := #[]
  cf := some (fileOf pool0 8 #[] #[{ accessFlags := 1, nameIndex := 5, descriptorIndex := 6, attributes := #[] }, { accessFlags := 273, nameIndex := 11, descriptorIndex := 12, attributes := #[] }] 33 0 #[] #[])
  fields := #[]
  methods := #[k0m0, k0m1]
  instanceTypes := #[]
  staticTypes := #[]
  resolved := Array.replicate 124 none
  statics := none }

def pool1 : Array CpInfo := pool [(2, .class_ 4), (1, u "java/lang/Object"), (0, u "<init>"), (0, u "()V"), (0, .integer 2147483647), (0, .fieldref 9 10), (0, .class_ 11), (0, .nameAndType 12 13), (0, u "com/example/temanggung/temanggung/beans/factory/Autowire"), (0, u "NO"), (0, u "Lcom/example/temanggung/temanggung/beans/factory/Autowire;"), (0, .fieldref 9 15), (0, .nameAndType 16 13), (0, u "BY_NAME"), (0, .fieldref 9 18), (0, .nameAndType 19 13), (0, u "BY_TYPE"), (0, .fieldref 9 21), (0, .nameAndType 22 13), (0, u "CONSTRUCTOR"), (0, .methodref 24 25), (0, .class_ 26), (0, .nameAndType 27 28), (0, u "java/lang/String"), (0, u "valueOf"), (0, u "(C)Ljava/lang/String;"), (0, .class_ 30), (0, u "com/example/temanggung/temanggung/beans/factory/BeanDefinition"), (0, .methodref 29 32), (0, .nameAndType 5 33), (0, u "(Ljava/lang/String;)V"), (0, .methodref 29 35), (0, .nameAndType 36 37), (0, u "getAutowire"), (0, u "()Lcom/example/temanggung/temanggung/beans/factory/Autowire;"), (0, .methodref 39 40), (0, .class_ 41), (0, .nameAndType 42 43), (0, u "com/example/temanggung/temanggung/beans/factory/BeanDefinitionGetAutowirePinLaw"), (0, u "mode"), (0, u "(I)Lcom/example/temanggung/temanggung/beans/factory/Autowire;"), (0, .methodref 29 45), (0, .nameAndType 46 47), (0, u "setAutowire"), (0, u "(Lcom/example/temanggung/temanggung/beans/factory/Autowire;)V"), (0, .methodref 39 49), (0, .nameAndType 50 51), (0, u "orNo"), (0, u "(Lcom/example/temanggung/temanggung/beans/factory/Autowire;)Lcom/example/temanggung/temanggung/beans/factory/Autowire;"), (0, .methodref 29 53), (0, .nameAndType 54 55), (0, u "mergedOnto"), (0, u "(Lcom/example/temanggung/temanggung/beans/factory/BeanDefinition;)Lcom/example/temanggung/temanggung/beans/factory/BeanDefinition;"), (3, u "law"), (0, u "(IIIII)Z")] 2

def k1m0 : Method := { name := "<init>", desc := "()V", sig := { parameters := [], returnType := none }, accessFlags := 1, code := none }
def k1c1 : Code := { maxStack := 2, maxLocals := 2, code := method_2_code, exceptionTable := #[], attributes := #[] }
def k1m1 : Method := { name := "mode", desc := "(I)Lcom/example/temanggung/temanggung/beans/factory/Autowire;", sig := { parameters := [.int], returnType := some (.object "com/example/temanggung/temanggung/beans/factory/Autowire") }, accessFlags := 10, code := some k1c1 }
def k1c2 : Code := { maxStack := 1, maxLocals := 1, code := method_3_code, exceptionTable := #[], attributes := #[] }
def k1m2 : Method := { name := "orNo", desc := "(Lcom/example/temanggung/temanggung/beans/factory/Autowire;)Lcom/example/temanggung/temanggung/beans/factory/Autowire;", sig := { parameters := [(.object "com/example/temanggung/temanggung/beans/factory/Autowire")], returnType := some (.object "com/example/temanggung/temanggung/beans/factory/Autowire") }, accessFlags := 10, code := some k1c2 }
def k1c3 : Code := { maxStack := 3, maxLocals := 15, code := code, exceptionTable := #[], attributes := #[] }
def k1m3 : Method := { name := "law", desc := "(IIIII)Z", sig := { parameters := [.int, .int, .int, .int, .int], returnType := some .boolean }, accessFlags := 9, code := some k1c3 }
/-- com/example/temanggung/temanggung/beans/factory/BeanDefinitionGetAutowirePinLaw -/
def k1 : Class := { plain "com/example/temanggung/temanggung/beans/factory/BeanDefinitionGetAutowirePinLaw" (some 0) with
  accessFlags := 49
  interfaces := #[]
  cf := some (fileOf pool1 39 #[] #[{ accessFlags := 1, nameIndex := 5, descriptorIndex := 6, attributes := #[] }, { accessFlags := 10, nameIndex := 42, descriptorIndex := 43, attributes := #[] }, { accessFlags := 10, nameIndex := 50, descriptorIndex := 51, attributes := #[] }, { accessFlags := 9, nameIndex := 59, descriptorIndex := 60, attributes := #[] }] 49 2 #[] #[])
  fields := #[]
  methods := #[k1m0, k1m1, k1m2, k1m3]
  instanceTypes := #[]
  staticTypes := #[]
  resolved := Array.replicate 63 none
  statics := none }

def pool2 : Array CpInfo := pool [(1, .class_ 2), (0, u "java/io/Serializable"), (0, .class_ 4), (0, u "java/lang/Object")] 2

/-- java/io/Serializable -/
def k2 : Class := { plain "java/io/Serializable" (some 0) with
  accessFlags := 1537
  interfaces := #[]
  cf := some (fileOf pool2 1 #[] #[] 1537 3 #[] #[])
  fields := #[]
  methods := #[]
  instanceTypes := #[]
  staticTypes := #[]
  resolved := Array.replicate 7 none
  statics := none }

def pool3 : Array CpInfo := pool [(1, .class_ 2), (0, u "java/lang/Comparable"), (0, .class_ 4), (0, u "java/lang/Object")] 7

/-- java/lang/Comparable -/
def k3 : Class := { plain "java/lang/Comparable" (some 0) with
  accessFlags := 1537
  interfaces := #[]
  cf := some (fileOf pool3 1 #[] #[] 1537 3 #[] #[])
  fields := #[]
  methods := #[]
  instanceTypes := #[]
  staticTypes := #[]
  resolved := Array.replicate 12 none
  statics := none }

def pool4 : Array CpInfo := pool [(2, .class_ 4), (1, u "java/lang/CharSequence"), (42, .class_ 48), (0, u "java/lang/CharSequence$1CodePointIterator"), (10, .class_ 60), (0, u "java/lang/CharSequence$1CharIterator"), (5, .class_ 67), (0, u "java/lang/Object")] 63

/-- java/lang/CharSequence -/
def k4 : Class := { plain "java/lang/CharSequence" (some 0) with
  accessFlags := 1537
  interfaces := #[]
  cf := some (fileOf pool4 2 #[.nestMembers #[47, 59]] #[] 1537 66 #[] #[])
  fields := #[]
  methods := #[]
  instanceTypes := #[]
  staticTypes := #[]
  resolved := Array.replicate 131 none
  statics := none }

def pool5 : Array CpInfo := pool [(1, .class_ 2), (0, u "java/lang/constant/Constable"), (0, .class_ 4), (0, u "java/lang/Object")] 6

/-- java/lang/constant/Constable -/
def k5 : Class := { plain "java/lang/constant/Constable" (some 0) with
  accessFlags := 1537
  interfaces := #[]
  cf := some (fileOf pool5 1 #[] #[] 1537 3 #[] #[])
  fields := #[]
  methods := #[]
  instanceTypes := #[]
  staticTypes := #[]
  resolved := Array.replicate 11 none
  statics := none }

def pool6 : Array CpInfo := pool [(1, .class_ 2), (0, u "java/lang/constant/ConstantDesc"), (0, .class_ 4), (0, u "java/lang/Object")] 32

/-- java/lang/constant/ConstantDesc -/
def k6 : Class := { plain "java/lang/constant/ConstantDesc" (some 0) with
  accessFlags := 1537
  interfaces := #[]
  cf := some (fileOf pool6 1 #[] #[] 1537 3 #[] #[])
  fields := #[]
  methods := #[]
  instanceTypes := #[]
  staticTypes := #[]
  resolved := Array.replicate 37 none
  statics := none }

def pool7 : Array CpInfo := pool [(1, .methodref 2 3), (0, .class_ 4), (0, .nameAndType 5 6), (0, u "java/lang/Object"), (0, u "<init>"), (0, u "()V"), (2, .fieldref 10 11), (0, .class_ 12), (0, .nameAndType 13 14), (0, u "java/lang/String"), (0, u "value"), (0, u "[B"), (0, .fieldref 10 16), (0, .nameAndType 17 18), (0, u "coder"), (0, u "B"), (2, u "hash"), (0, u "I"), (2, u "hashIsZero"), (0, u "Z"), (11, .fieldref 10 39), (0, .nameAndType 40 26), (0, u "COMPACT_STRINGS"), (12, u "toBytes"), (53, .class_ 109), (1, u "java/lang/StringLatin1"), (99, .methodref 10 210), (0, .nameAndType 5 211), (0, u "([BB)V"), (157, u "(C)Z"), (205, .class_ 576), (0, u "java/lang/CharSequence"), (22, u "CASE_INSENSITIVE_ORDER"), (0, u "Ljava/util/Comparator;"), (181, u "valueOf"), (0, u "(C)Ljava/lang/String;"), (231, .methodref 107 1016), (0, .nameAndType 1017 369), (0, u "canEncode"), (0, .methodref 107 1019), (0, .nameAndType 53 1020), (0, u "(C)[B"), (80, u "serialPersistentFields"), (0, u "[Ljava/io/ObjectStreamField;"), (0, .class_ 1104), (0, u "java/lang/String$CaseInsensitiveComparator"), (1, .class_ 1107), (0, u "java/io/Serializable"), (0, .class_ 1109), (0, u "java/lang/Comparable"), (0, .class_ 1111), (0, u "java/lang/constant/Constable"), (0, .class_ 1113), (0, u "java/lang/constant/ConstantDesc"), (2, u "serialVersionUID"), (0, u "J"), (3, u "REPL"), (0, u "C"), (2, u "LATIN1"), (1, u "UTF16")] 323

def k7m0 : Method := { name := "<init>", desc := "()V", sig := { parameters := [], returnType := none }, accessFlags := 1, code := none }
def k7c1 : Code := { maxStack := 4, maxLocals := 1, code := jdk_42_method_139_code, exceptionTable := #[], attributes := #[] }
def k7m1 : Method := { name := "valueOf", desc := "(C)Ljava/lang/String;", sig := { parameters := [.char], returnType := some (.object "java/lang/String") }, accessFlags := 9, code := some k7c1 }
def k7c2 : Code := { maxStack := 2, maxLocals := 3, code := jdk_42_method_151_code, exceptionTable := #[], attributes := #[] }
def k7m2 : Method := { name := "<init>", desc := "([BB)V", sig := { parameters := [(.array .byte), .byte], returnType := none }, accessFlags := 0, code := some k7c2 }
/-- java/lang/String -/
def k7 : Class := { plain "java/lang/String" (some 0) with
  accessFlags := 49
  interfaces := #[2, 3, 4, 5, 6]
  cf := some (fileOf pool7 10 #[.nestMembers #[1103]] #[{ accessFlags := 1, nameIndex := 5, descriptorIndex := 6, attributes := #[] }, { accessFlags := 9, nameIndex := 782, descriptorIndex := 783, attributes := #[] }, { accessFlags := 0, nameIndex := 5, descriptorIndex := 211, attributes := #[] }] 49 2 #[1106, 1108, 575, 1110, 1112] #[{ accessFlags := 18, nameIndex := 13, descriptorIndex := 14, attributes := #[] }, { accessFlags := 18, nameIndex := 17, descriptorIndex := 18, attributes := #[] }, { accessFlags := 2, nameIndex := 21, descriptorIndex := 22, attributes := #[] }, { accessFlags := 2, nameIndex := 25, descriptorIndex := 26, attributes := #[] }, { accessFlags := 26, nameIndex := 1116, descriptorIndex := 1117, attributes := #[] }, { accessFlags := 24, nameIndex := 40, descriptorIndex := 26, attributes := #[] }, { accessFlags := 26, nameIndex := 1101, descriptorIndex := 1102, attributes := #[] }, { accessFlags := 26, nameIndex := 1121, descriptorIndex := 1122, attributes := #[] }, { accessFlags := 25, nameIndex := 599, descriptorIndex := 600, attributes := #[] }, { accessFlags := 24, nameIndex := 1125, descriptorIndex := 18, attributes := #[] }, { accessFlags := 24, nameIndex := 1127, descriptorIndex := 18, attributes := #[] }])
  fields := #[{ name := "value", type := (.array .byte), accessFlags := 18, slot := 0, constantValue := 0 }, { name := "coder", type := .byte, accessFlags := 18, slot := 1, constantValue := 0 }, { name := "hash", type := .int, accessFlags := 2, slot := 2, constantValue := 0 }, { name := "hashIsZero", type := .boolean, accessFlags := 2, slot := 3, constantValue := 0 }, { name := "serialVersionUID", type := .long, accessFlags := 26, slot := 0, constantValue := 0 }, { name := "COMPACT_STRINGS", type := .boolean, accessFlags := 24, slot := 1, constantValue := 0 }, { name := "serialPersistentFields", type := (.array (.object "java/io/ObjectStreamField")), accessFlags := 26, slot := 2, constantValue := 0 }, { name := "REPL", type := .char, accessFlags := 26, slot := 3, constantValue := 0 }, { name := "CASE_INSENSITIVE_ORDER", type := (.object "java/util/Comparator"), accessFlags := 25, slot := 4, constantValue := 0 }, { name := "LATIN1", type := .byte, accessFlags := 24, slot := 5, constantValue := 0 }, { name := "UTF16", type := .byte, accessFlags := 24, slot := 6, constantValue := 0 }]
  methods := #[k7m0, k7m1, k7m2]
  instanceTypes := #[(.array .byte), .byte, .int, .boolean]
  staticTypes := #[.long, .boolean, (.array (.object "java/io/ObjectStreamField")), .char, (.object "java/util/Comparator"), .byte, .byte]
  resolved := Array.replicate 1451 none
  statics := some 0 }

def pool8 : Array CpInfo := pool [(4, .class_ 6), (1, u "java/lang/Object"), (0, u "<init>"), (0, u "()V"), (5, .class_ 16), (1, u "java/lang/StringLatin1"), (73, u "canEncode"), (14, u "(C)Z"), (15, u "$assertionsDisabled"), (0, u "Z"), (98, .class_ 223), (1, u "java/lang/StringLatin1$LinesSpliterator"), (156, u "toBytes"), (1, u "(C)[B"), (7, .class_ 391), (0, u "java/lang/StringLatin1$CharsSpliterator")] 3

def k8m0 : Method := { name := "<init>", desc := "()V", sig := { parameters := [], returnType := none }, accessFlags := 0, code := none }
def k8c1 : Code := { maxStack := 2, maxLocals := 1, code := jdk_43_method_3_code, exceptionTable := #[], attributes := #[] }
def k8m1 : Method := { name := "canEncode", desc := "(C)Z", sig := { parameters := [.char], returnType := some .boolean }, accessFlags := 9, code := some k8c1 }
def k8c2 : Code := { maxStack := 4, maxLocals := 1, code := jdk_43_method_46_code, exceptionTable := #[], attributes := #[] }
def k8m2 : Method := { name := "toBytes", desc := "(C)[B", sig := { parameters := [.char], returnType := some (.array .byte) }, accessFlags := 9, code := some k8c2 }
/-- java/lang/StringLatin1 -/
def k8 : Class := { plain "java/lang/StringLatin1" (some 0) with
  accessFlags := 48
  interfaces := #[]
  cf := some (fileOf pool8 14 #[.nestMembers #[390, 221]] #[{ accessFlags := 0, nameIndex := 7, descriptorIndex := 8, attributes := #[] }, { accessFlags := 9, nameIndex := 90, descriptorIndex := 105, attributes := #[] }, { accessFlags := 9, nameIndex := 380, descriptorIndex := 382, attributes := #[] }] 48 4 #[] #[{ accessFlags := 4120, nameIndex := 121, descriptorIndex := 122, attributes := #[] }])
  fields := #[{ name := "$assertionsDisabled", type := .boolean, accessFlags := 4120, slot := 0, constantValue := 0 }]
  methods := #[k8m0, k8m1, k8m2]
  instanceTypes := #[]
  staticTypes := #[.boolean]
  resolved := Array.replicate 395 none
  statics := none }

def pool9 : Array CpInfo := pool [(1, .methodref 2 3), (0, .class_ 4), (0, .nameAndType 5 6), (0, u "java/lang/Object"), (0, u "<init>"), (0, u "()V"), (0, .interfaceMethodref 8 9), (0, .class_ 10), (0, .nameAndType 11 12), (0, u "java/util/List"), (0, u "of"), (0, u "()Ljava/util/List;"), (0, .fieldref 14 15), (0, .class_ 16), (0, .nameAndType 17 18), (0, u "com/example/temanggung/temanggung/beans/factory/BeanDefinition"), (0, u "qualifiers"), (0, u "Ljava/util/List;"), (0, .fieldref 14 20), (0, .nameAndType 21 18), (0, u "dependsOn"), (0, .class_ 23), (0, u "java/util/ArrayList"), (0, .methodref 22 3), (0, .fieldref 14 26), (0, .nameAndType 27 18), (0, u "constructorArguments"), (0, .methodref 29 30), (0, .class_ 31), (0, .nameAndType 32 33), (0, u "java/util/Collections"), (0, u "unmodifiableList"), (0, u "(Ljava/util/List;)Ljava/util/List;"), (0, .fieldref 14 35), (0, .nameAndType 36 18), (0, u "constructorArgumentsView"), (0, .fieldref 14 38), (0, .nameAndType 39 18), (0, u "propertyValues"), (0, .fieldref 14 41), (0, .nameAndType 42 18), (0, u "propertyValuesView"), (0, .class_ 44), (0, u "java/util/concurrent/CopyOnWriteArrayList"), (0, .methodref 43 3), (0, .fieldref 14 47), (0, .nameAndType 48 18), (0, u "watchers"), (0, .fieldref 14 50), (0, .nameAndType 51 52), (0, u "className"), (0, u "Ljava/lang/String;"), (7, .nameAndType 5 61), (0, u "(Ljava/lang/String;)V"), (0, .methodref 14 60), (1, u "value"), (8, .fieldref 14 74), (0, .nameAndType 64 75), (0, u "Lcom/example/temanggung/temanggung/beans/factory/DefinedValue;"), (0, .methodref 14 77), (0, .nameAndType 78 6), (0, u "changed"), (2, u "parentName"), (4, .fieldref 14 87), (0, .nameAndType 88 89), (0, u "abstractDefinition"), (0, u "Z"), (0, .fieldref 14 91), (0, .nameAndType 92 89), (0, u "primary"), (4, .fieldref 14 98), (0, .nameAndType 99 52), (0, u "factoryBeanName"), (0, .fieldref 14 101), (0, .nameAndType 102 52), (0, u "factoryMethodName"), (0, .fieldref 14 104), (0, .nameAndType 105 52), (0, u "scope"), (7, .class_ 115), (1, u "java/lang/String"), (9, u "Ljava/lang/Boolean;"), (0, .fieldref 14 127), (0, .nameAndType 128 125), (0, u "lazyInit"), (5, .fieldref 14 135), (0, .nameAndType 136 137), (0, u "autowire"), (0, u "Lcom/example/temanggung/temanggung/beans/factory/Autowire;"), (0, .fieldref 139 140), (0, .class_ 141), (0, .nameAndType 142 137), (0, u "com/example/temanggung/temanggung/beans/factory/Autowire"), (0, u "NO"), (71, u "()Z"), (20, .interfaceMethodref 8 236), (0, .nameAndType 237 238), (0, u "iterator"), (0, u "()Ljava/util/Iterator;"), (0, .interfaceMethodref 240 241), (0, .class_ 242), (0, .nameAndType 243 214), (0, u "java/util/Iterator"), (0, u "hasNext"), (89, .fieldref 14 334), (0, .nameAndType 335 52), (0, u "initMethodName"), (0, .fieldref 14 337), (0, .nameAndType 338 52), (0, u "destroyMethodName"), (0, .fieldref 14 340), (0, .nameAndType 341 52), (0, u "origin"), (0, .methodref 14 343), (0, .nameAndType 344 345), (0, u "either"), (0, u "(Ljava/lang/Object;Ljava/lang/Object;)Ljava/lang/Object;"), (0, .interfaceMethodref 8 347), (0, .nameAndType 348 214), (0, u "isEmpty"), (0, .interfaceMethodref 8 350), (0, .nameAndType 351 352), (0, u "addAll"), (0, u "(Ljava/util/Collection;)Z"), (44, u "SCOPE_SINGLETON"), (1, u "SCOPE_PROTOTYPE"), (39, u "getAutowire"), (0, u "()Lcom/example/temanggung/temanggung/beans/factory/Autowire;"), (0, u "setAutowire"), (0, u "(Lcom/example/temanggung/temanggung/beans/factory/Autowire;)V"), (15, u "mergedOnto"), (0, u "(Lcom/example/temanggung/temanggung/beans/factory/BeanDefinition;)Lcom/example/temanggung/temanggung/beans/factory/BeanDefinition;")] 48

def k9c0 : Code := { maxStack := 3, maxLocals := 2, code := prog_17_method_1_code, exceptionTable := #[], attributes := #[] }
def k9m0 : Method := { name := "<init>", desc := "(Ljava/lang/String;)V", sig := { parameters := [(.object "java/lang/String")], returnType := none }, accessFlags := 1, code := some k9c0 }
def k9c1 : Code := { maxStack := 1, maxLocals := 1, code := prog_17_method_26_code, exceptionTable := #[], attributes := #[] }
def k9m1 : Method := { name := "getAutowire", desc := "()Lcom/example/temanggung/temanggung/beans/factory/Autowire;", sig := { parameters := [], returnType := some (.object "com/example/temanggung/temanggung/beans/factory/Autowire") }, accessFlags := 1, code := some k9c1 }
def k9c2 : Code := { maxStack := 2, maxLocals := 2, code := prog_17_method_27_code, exceptionTable := #[], attributes := #[] }
def k9m2 : Method := { name := "setAutowire", desc := "(Lcom/example/temanggung/temanggung/beans/factory/Autowire;)V", sig := { parameters := [(.object "com/example/temanggung/temanggung/beans/factory/Autowire")], returnType := none }, accessFlags := 1, code := some k9c2 }
def k9c3 : Code := { maxStack := 4, maxLocals := 6, code := prog_17_method_41_code, exceptionTable := #[], attributes := #[] }
def k9m3 : Method := { name := "mergedOnto", desc := "(Lcom/example/temanggung/temanggung/beans/factory/BeanDefinition;)Lcom/example/temanggung/temanggung/beans/factory/BeanDefinition;", sig := { parameters := [(.object "com/example/temanggung/temanggung/beans/factory/BeanDefinition")], returnType := some (.object "com/example/temanggung/temanggung/beans/factory/BeanDefinition") }, accessFlags := 0, code := some k9c3 }
def k9c4 : Code := { maxStack := 2, maxLocals := 4, code := prog_17_method_43_code, exceptionTable := #[], attributes := #[] }
def k9m4 : Method := { name := "changed", desc := "()V", sig := { parameters := [], returnType := none }, accessFlags := 2, code := some k9c4 }
def k9c5 : Code := { maxStack := 1, maxLocals := 2, code := prog_17_method_47_code, exceptionTable := #[], attributes := #[] }
def k9m5 : Method := { name := "either", desc := "(Ljava/lang/Object;Ljava/lang/Object;)Ljava/lang/Object;", sig := { parameters := [(.object "java/lang/Object"), (.object "java/lang/Object")], returnType := some (.object "java/lang/Object") }, accessFlags := 10, code := some k9c5 }
/-- com/example/temanggung/temanggung/beans/factory/BeanDefinition -/
def k9 : Class := { plain "com/example/temanggung/temanggung/beans/factory/BeanDefinition" (some 0) with
  accessFlags := 49
  interfaces := #[]
  cf := some (fileOf pool9 14 #[] #[{ accessFlags := 1, nameIndex := 5, descriptorIndex := 61, attributes := #[] }, { accessFlags := 1, nameIndex := 439, descriptorIndex := 440, attributes := #[] }, { accessFlags := 1, nameIndex := 441, descriptorIndex := 442, attributes := #[] }, { accessFlags := 0, nameIndex := 458, descriptorIndex := 459, attributes := #[] }, { accessFlags := 2, nameIndex := 78, descriptorIndex := 6, attributes := #[] }, { accessFlags := 10, nameIndex := 344, descriptorIndex := 345, attributes := #[] }] 49 2 #[] #[{ accessFlags := 25, nameIndex := 397, descriptorIndex := 52, attributes := #[] }, { accessFlags := 25, nameIndex := 399, descriptorIndex := 52, attributes := #[] }, { accessFlags := 2, nameIndex := 51, descriptorIndex := 52, attributes := #[] }, { accessFlags := 2, nameIndex := 64, descriptorIndex := 75, attributes := #[] }, { accessFlags := 2, nameIndex := 81, descriptorIndex := 52, attributes := #[] }, { accessFlags := 2, nameIndex := 88, descriptorIndex := 89, attributes := #[] }, { accessFlags := 2, nameIndex := 92, descriptorIndex := 89, attributes := #[] }, { accessFlags := 2, nameIndex := 17, descriptorIndex := 18, attributes := #[] }, { accessFlags := 2, nameIndex := 105, descriptorIndex := 52, attributes := #[] }, { accessFlags := 2, nameIndex := 128, descriptorIndex := 125, attributes := #[] }, { accessFlags := 2, nameIndex := 136, descriptorIndex := 137, attributes := #[] }, { accessFlags := 2, nameIndex := 99, descriptorIndex := 52, attributes := #[] }, { accessFlags := 2, nameIndex := 102, descriptorIndex := 52, attributes := #[] }, { accessFlags := 2, nameIndex := 21, descriptorIndex := 18, attributes := #[] }, { accessFlags := 18, nameIndex := 27, descriptorIndex := 18, attributes := #[] }, { accessFlags := 18, nameIndex := 36, descriptorIndex := 18, attributes := #[] }, { accessFlags := 18, nameIndex := 39, descriptorIndex := 18, attributes := #[] }, { accessFlags := 18, nameIndex := 42, descriptorIndex := 18, attributes := #[] }, { accessFlags := 2, nameIndex := 335, descriptorIndex := 52, attributes := #[] }, { accessFlags := 2, nameIndex := 338, descriptorIndex := 52, attributes := #[] }, { accessFlags := 2, nameIndex := 341, descriptorIndex := 52, attributes := #[] }, { accessFlags := 18, nameIndex := 48, descriptorIndex := 18, attributes := #[] }])
  fields := #[{ name := "SCOPE_SINGLETON", type := (.object "java/lang/String"), accessFlags := 25, slot := 0, constantValue := 0 }, { name := "SCOPE_PROTOTYPE", type := (.object "java/lang/String"), accessFlags := 25, slot := 1, constantValue := 0 }, { name := "className", type := (.object "java/lang/String"), accessFlags := 2, slot := 0, constantValue := 0 }, { name := "value", type := (.object "com/example/temanggung/temanggung/beans/factory/DefinedValue"), accessFlags := 2, slot := 1, constantValue := 0 }, { name := "parentName", type := (.object "java/lang/String"), accessFlags := 2, slot := 2, constantValue := 0 }, { name := "abstractDefinition", type := .boolean, accessFlags := 2, slot := 3, constantValue := 0 }, { name := "primary", type := .boolean, accessFlags := 2, slot := 4, constantValue := 0 }, { name := "qualifiers", type := (.object "java/util/List"), accessFlags := 2, slot := 5, constantValue := 0 }, { name := "scope", type := (.object "java/lang/String"), accessFlags := 2, slot := 6, constantValue := 0 }, { name := "lazyInit", type := (.object "java/lang/Boolean"), accessFlags := 2, slot := 7, constantValue := 0 }, { name := "autowire", type := (.object "com/example/temanggung/temanggung/beans/factory/Autowire"), accessFlags := 2, slot := 8, constantValue := 0 }, { name := "factoryBeanName", type := (.object "java/lang/String"), accessFlags := 2, slot := 9, constantValue := 0 }, { name := "factoryMethodName", type := (.object "java/lang/String"), accessFlags := 2, slot := 10, constantValue := 0 }, { name := "dependsOn", type := (.object "java/util/List"), accessFlags := 2, slot := 11, constantValue := 0 }, { name := "constructorArguments", type := (.object "java/util/List"), accessFlags := 18, slot := 12, constantValue := 0 }, { name := "constructorArgumentsView", type := (.object "java/util/List"), accessFlags := 18, slot := 13, constantValue := 0 }, { name := "propertyValues", type := (.object "java/util/List"), accessFlags := 18, slot := 14, constantValue := 0 }, { name := "propertyValuesView", type := (.object "java/util/List"), accessFlags := 18, slot := 15, constantValue := 0 }, { name := "initMethodName", type := (.object "java/lang/String"), accessFlags := 2, slot := 16, constantValue := 0 }, { name := "destroyMethodName", type := (.object "java/lang/String"), accessFlags := 2, slot := 17, constantValue := 0 }, { name := "origin", type := (.object "java/lang/String"), accessFlags := 2, slot := 18, constantValue := 0 }, { name := "watchers", type := (.object "java/util/List"), accessFlags := 18, slot := 19, constantValue := 0 }]
  methods := #[k9m0, k9m1, k9m2, k9m3, k9m4, k9m5]
  instanceTypes := #[(.object "java/lang/String"), (.object "com/example/temanggung/temanggung/beans/factory/DefinedValue"), (.object "java/lang/String"), .boolean, .boolean, (.object "java/util/List"), (.object "java/lang/String"), (.object "java/lang/Boolean"), (.object "com/example/temanggung/temanggung/beans/factory/Autowire"), (.object "java/lang/String"), (.object "java/lang/String"), (.object "java/util/List"), (.object "java/util/List"), (.object "java/util/List"), (.object "java/util/List"), (.object "java/util/List"), (.object "java/lang/String"), (.object "java/lang/String"), (.object "java/lang/String"), (.object "java/util/List")]
  staticTypes := #[(.object "java/lang/String"), (.object "java/lang/String")]
  resolved := Array.replicate 508 none
  statics := none }

def pool10 : Array CpInfo := pool [(8, .class_ 10), (1, u "java/lang/Iterable"), (24, .class_ 36), (0, u "java/lang/Object")] 25

/-- java/lang/Iterable -/
def k10 : Class := { plain "java/lang/Iterable" (some 0) with
  accessFlags := 1537
  interfaces := #[]
  cf := some (fileOf pool10 8 #[] #[] 1537 35 #[] #[])
  fields := #[]
  methods := #[]
  instanceTypes := #[]
  staticTypes := #[]
  resolved := Array.replicate 62 none
  statics := none }

def pool11 : Array CpInfo := pool [(10, .class_ 12), (1, u "java/util/Collection"), (0, u "toArray"), (46, .class_ 61), (0, u "java/lang/Object"), (0, .class_ 63), (0, u "java/lang/Iterable"), (6, u "()[Ljava/lang/Object;")] 44

def k11m0 : Method := { name := "toArray", desc := "()[Ljava/lang/Object;", sig := { parameters := [], returnType := some (.array (.object "java/lang/Object")) }, accessFlags := 1025, code := none }
/-- java/util/Collection -/
def k11 : Class := { plain "java/util/Collection" (some 0) with
  accessFlags := 1537
  interfaces := #[10]
  cf := some (fileOf pool11 10 #[] #[{ accessFlags := 1025, nameIndex := 13, descriptorIndex := 70, attributes := #[] }] 1537 60 #[62] #[])
  fields := #[]
  methods := #[k11m0]
  instanceTypes := #[]
  staticTypes := #[]
  resolved := Array.replicate 115 none
  statics := none }

def pool12 : Array CpInfo := pool [(8, .class_ 10), (1, u "java/util/SequencedCollection"), (15, .class_ 27), (0, u "java/lang/Object"), (0, .class_ 29), (0, u "java/util/Collection")] 27

/-- java/util/SequencedCollection -/
def k12 : Class := { plain "java/util/SequencedCollection" (some 0) with
  accessFlags := 1537
  interfaces := #[11]
  cf := some (fileOf pool12 8 #[] #[] 1537 26 #[28] #[])
  fields := #[]
  methods := #[]
  instanceTypes := #[]
  staticTypes := #[]
  resolved := Array.replicate 57 none
  statics := none }

def pool13 : Array CpInfo := pool [(8, .class_ 10), (1, u "java/util/List"), (7, u "()Z"), (48, u "isEmpty"), (20, u "of"), (1, .fieldref 91 92), (0, .class_ 93), (0, .nameAndType 94 95), (0, u "java/util/ImmutableCollections"), (0, u "EMPTY_LIST"), (0, u "Ljava/util/ImmutableCollections$ListN;"), (7, .class_ 104), (0, u "java/lang/Object"), (14, u "()Ljava/util/List;"), (0, .class_ 121), (0, u "java/util/SequencedCollection"), (1, u "iterator"), (0, u "()Ljava/util/Iterator;"), (6, u "(Ljava/util/Collection;)Z"), (1, u "addAll")] 117

def k13m0 : Method := { name := "isEmpty", desc := "()Z", sig := { parameters := [], returnType := some .boolean }, accessFlags := 1025, code := none }
def k13m1 : Method := { name := "iterator", desc := "()Ljava/util/Iterator;", sig := { parameters := [], returnType := some (.object "java/util/Iterator") }, accessFlags := 1025, code := none }
def k13m2 : Method := { name := "addAll", desc := "(Ljava/util/Collection;)Z", sig := { parameters := [(.object "java/util/Collection")], returnType := some .boolean }, accessFlags := 1025, code := none }
def k13c3 : Code := { maxStack := 1, maxLocals := 0, code := jdk_40_method_36_code, exceptionTable := #[], attributes := #[] }
def k13m3 : Method := { name := "of", desc := "()Ljava/util/List;", sig := { parameters := [], returnType := some (.object "java/util/List") }, accessFlags := 9, code := some k13c3 }
/-- java/util/List -/
def k13 : Class := { plain "java/util/List" (some 0) with
  accessFlags := 1537
  interfaces := #[12]
  cf := some (fileOf pool13 8 #[] #[{ accessFlags := 1025, nameIndex := 67, descriptorIndex := 18, attributes := #[] }, { accessFlags := 1025, nameIndex := 123, descriptorIndex := 124, attributes := #[] }, { accessFlags := 1025, nameIndex := 133, descriptorIndex := 131, attributes := #[] }, { accessFlags := 9, nameIndex := 88, descriptorIndex := 119, attributes := #[] }] 1537 103 #[120] #[])
  fields := #[]
  methods := #[k13m0, k13m1, k13m2, k13m3]
  instanceTypes := #[]
  staticTypes := #[]
  resolved := Array.replicate 251 none
  statics := none }

def pool14 : Array CpInfo := pool [(2, .class_ 4), (1, u "java/lang/Object"), (0, u "<init>"), (0, u "()V"), (3, .class_ 11), (0, u "java/util/ImmutableCollections$List12"), (0, .class_ 13), (0, u "java/util/ImmutableCollections$ListN"), (3, u "Z"), (29, .class_ 49), (1, u "java/util/ImmutableCollections"), (0, u "$assertionsDisabled"), (5, u "[Ljava/lang/Object;"), (5, u "EMPTY_LIST"), (0, u "Ljava/util/ImmutableCollections$ListN;"), (8, u "EMPTY_LIST_NULLS"), (22, u "SALT32L"), (0, u "J"), (2, u "REVERSE"), (6, u "archivedObjects"), (2, u "EMPTY"), (0, u "Ljava/lang/Object;"), (0, .class_ 112), (0, u "java/util/ImmutableCollections$SetN"), (5, u "EMPTY_SET"), (0, u "Ljava/util/ImmutableCollections$SetN;"), (0, .class_ 121), (0, u "java/util/ImmutableCollections$MapN"), (3, u "EMPTY_MAP"), (0, u "Ljava/util/ImmutableCollections$MapN;"), (4, u "EXPAND_FACTOR"), (0, u "I"), (36, .class_ 170), (0, u "java/util/ImmutableCollections$MapN$MapNIterator"), (0, .class_ 172), (0, u "java/util/ImmutableCollections$MapN$1"), (0, .class_ 174), (0, u "java/util/ImmutableCollections$Map1"), (0, .class_ 176), (0, u "java/util/ImmutableCollections$AbstractImmutableMap"), (0, .class_ 178), (0, u "java/util/ImmutableCollections$SetN$SetNIterator"), (0, .class_ 180), (0, u "java/util/ImmutableCollections$Set12"), (0, .class_ 182), (0, u "java/util/ImmutableCollections$Set12$1"), (0, .class_ 184), (0, u "java/util/ImmutableCollections$AbstractImmutableSet"), (0, .class_ 186), (0, u "java/util/ImmutableCollections$SubList"), (0, .class_ 188), (0, u "java/util/ImmutableCollections$ListItr"), (0, .class_ 190), (0, u "java/util/ImmutableCollections$AbstractImmutableList"), (0, .class_ 192), (0, u "java/util/ImmutableCollections$AbstractImmutableCollection"), (0, .class_ 194), (0, u "java/util/ImmutableCollections$Access"), (0, .class_ 196), (0, u "java/util/ImmutableCollections$Access$1")] 16

def k14m0 : Method := { name := "<init>", desc := "()V", sig := { parameters := [], returnType := none }, accessFlags := 2, code := none }
/-- java/util/ImmutableCollections -/
def k14 : Class := { plain "java/util/ImmutableCollections" (some 0) with
  accessFlags := 32
  interfaces := #[]
  cf := some (fileOf pool14 47 #[.nestMembers #[120, 169, 171, 173, 175, 111, 177, 179, 181, 183, 12, 10, 185, 187, 189, 191, 193, 195]] #[{ accessFlags := 2, nameIndex := 5, descriptorIndex := 6, attributes := #[] }] 32 2 #[] #[{ accessFlags := 26, nameIndex := 95, descriptorIndex := 96, attributes := #[] }, { accessFlags := 26, nameIndex := 99, descriptorIndex := 17, attributes := #[] }, { accessFlags := 10, nameIndex := 106, descriptorIndex := 56, attributes := #[] }, { accessFlags := 26, nameIndex := 109, descriptorIndex := 110, attributes := #[] }, { accessFlags := 24, nameIndex := 62, descriptorIndex := 63, attributes := #[] }, { accessFlags := 24, nameIndex := 72, descriptorIndex := 63, attributes := #[] }, { accessFlags := 24, nameIndex := 118, descriptorIndex := 119, attributes := #[] }, { accessFlags := 24, nameIndex := 125, descriptorIndex := 126, attributes := #[] }, { accessFlags := 24, nameIndex := 131, descriptorIndex := 132, attributes := #[] }, { accessFlags := 4120, nameIndex := 50, descriptorIndex := 17, attributes := #[] }])
  fields := #[{ name := "SALT32L", type := .long, accessFlags := 26, slot := 0, constantValue := 0 }, { name := "REVERSE", type := .boolean, accessFlags := 26, slot := 1, constantValue := 0 }, { name := "archivedObjects", type := (.array (.object "java/lang/Object")), accessFlags := 10, slot := 2, constantValue := 0 }, { name := "EMPTY", type := (.object "java/lang/Object"), accessFlags := 26, slot := 3, constantValue := 0 }, { name := "EMPTY_LIST", type := (.object "java/util/ImmutableCollections$ListN"), accessFlags := 24, slot := 4, constantValue := 0 }, { name := "EMPTY_LIST_NULLS", type := (.object "java/util/ImmutableCollections$ListN"), accessFlags := 24, slot := 5, constantValue := 0 }, { name := "EMPTY_SET", type := (.object "java/util/ImmutableCollections$SetN"), accessFlags := 24, slot := 6, constantValue := 0 }, { name := "EMPTY_MAP", type := (.object "java/util/ImmutableCollections$MapN"), accessFlags := 24, slot := 7, constantValue := 0 }, { name := "EXPAND_FACTOR", type := .int, accessFlags := 24, slot := 8, constantValue := 0 }, { name := "$assertionsDisabled", type := .boolean, accessFlags := 4120, slot := 9, constantValue := 0 }]
  methods := #[k14m0]
  instanceTypes := #[]
  staticTypes := #[.long, .boolean, (.array (.object "java/lang/Object")), (.object "java/lang/Object"), (.object "java/util/ImmutableCollections$ListN"), (.object "java/util/ImmutableCollections$ListN"), (.object "java/util/ImmutableCollections$SetN"), (.object "java/util/ImmutableCollections$MapN"), .int, .boolean]
  resolved := Array.replicate 213 none
  statics := some 1 }

def pool15 : Array CpInfo := pool [(1, .methodref 2 3), (0, .class_ 4), (0, .nameAndType 5 6), (0, u "java/lang/Object"), (0, u "<init>"), (0, u "()V"), (1, .class_ 10), (1, u "java/util/AbstractCollection"), (66, .class_ 78), (0, u "java/util/Collection")] 81

def k15c0 : Code := { maxStack := 1, maxLocals := 1, code := jdk_22_method_1_code, exceptionTable := #[], attributes := #[] }
def k15m0 : Method := { name := "<init>", desc := "()V", sig := { parameters := [], returnType := none }, accessFlags := 4, code := some k15c0 }
/-- java/util/AbstractCollection -/
def k15 : Class := { plain "java/util/AbstractCollection" (some 0) with
  accessFlags := 1057
  interfaces := #[11]
  cf := some (fileOf pool15 8 #[] #[{ accessFlags := 4, nameIndex := 5, descriptorIndex := 6, attributes := #[] }] 1057 2 #[77] #[])
  fields := #[]
  methods := #[k15m0]
  instanceTypes := #[]
  staticTypes := #[]
  resolved := Array.replicate 160 none
  statics := none }

def pool16 : Array CpInfo := pool [(1, .methodref 2 3), (0, .class_ 4), (0, .nameAndType 5 6), (0, u "java/util/AbstractCollection"), (0, u "<init>"), (0, u "()V"), (0, .fieldref 8 9), (0, .class_ 10), (0, .nameAndType 11 12), (0, u "java/util/AbstractList"), (0, u "modCount"), (0, u "I"), (64, .class_ 78), (0, u "java/util/AbstractList$Itr"), (3, .class_ 83), (0, u "java/util/AbstractList$ListItr"), (9, .class_ 94), (0, u "java/util/AbstractList$RandomAccessSubList"), (3, .class_ 99), (0, u "java/util/AbstractList$SubList"), (33, .class_ 134), (0, u "java/util/List"), (73, .class_ 209), (0, u "java/util/AbstractList$SubList$1"), (0, .class_ 211), (0, u "java/util/AbstractList$RandomAccessSpliterator")] 6

def k16c0 : Code := { maxStack := 2, maxLocals := 1, code := jdk_39_method_1_code, exceptionTable := #[], attributes := #[] }
def k16m0 : Method := { name := "<init>", desc := "()V", sig := { parameters := [], returnType := none }, accessFlags := 4, code := some k16c0 }
/-- java/util/AbstractList -/
def k16 : Class := { plain "java/util/AbstractList" (some 15) with
  accessFlags := 1057
  interfaces := #[13]
  cf := some (fileOf pool16 8 #[.nestMembers #[93, 98, 208, 210, 82, 77]] #[{ accessFlags := 4, nameIndex := 5, descriptorIndex := 6, attributes := #[] }] 1057 2 #[133] #[{ accessFlags := 132, nameIndex := 11, descriptorIndex := 12, attributes := #[] }])
  fields := #[{ name := "modCount", type := .int, accessFlags := 132, slot := 0, constantValue := 0 }]
  methods := #[k16m0]
  instanceTypes := #[.int]
  staticTypes := #[]
  resolved := Array.replicate 218 none
  statics := none }

def pool17 : Array CpInfo := pool [(1, .class_ 2), (0, u "java/util/RandomAccess"), (0, .class_ 4), (0, u "java/lang/Object")] 2

/-- java/util/RandomAccess -/
def k17 : Class := { plain "java/util/RandomAccess" (some 0) with
  accessFlags := 1537
  interfaces := #[]
  cf := some (fileOf pool17 1 #[] #[] 1537 3 #[] #[])
  fields := #[]
  methods := #[]
  instanceTypes := #[]
  staticTypes := #[]
  resolved := Array.replicate 7 none
  statics := none }

def pool18 : Array CpInfo := pool [(1, .class_ 2), (0, u "java/lang/Cloneable"), (0, .class_ 4), (0, u "java/lang/Object")] 2

/-- java/lang/Cloneable -/
def k18 : Class := { plain "java/lang/Cloneable" (some 0) with
  accessFlags := 1537
  interfaces := #[]
  cf := some (fileOf pool18 1 #[] #[] 1537 3 #[] #[])
  fields := #[]
  methods := #[]
  instanceTypes := #[]
  staticTypes := #[]
  resolved := Array.replicate 7 none
  statics := none }

def pool19 : Array CpInfo := pool [(1, .methodref 2 3), (0, .class_ 4), (0, .nameAndType 5 6), (0, u "java/util/AbstractList"), (0, u "<init>"), (0, u "()V"), (2, .fieldref 10 11), (0, .class_ 12), (0, .nameAndType 13 14), (0, u "java/util/ArrayList"), (0, u "elementData"), (0, u "[Ljava/lang/Object;"), (2, u "EMPTY_ELEMENTDATA"), (21, .fieldref 10 40), (0, .nameAndType 41 14), (0, u "DEFAULTCAPACITY_EMPTY_ELEMENTDATA"), (0, .interfaceMethodref 43 44), (0, .class_ 45), (0, .nameAndType 46 47), (0, u "java/util/Collection"), (0, u "toArray"), (0, u "()[Ljava/lang/Object;"), (0, .fieldref 10 49), (0, .nameAndType 50 51), (0, u "size"), (0, u "I"), (6, .class_ 60), (1, u "java/util/Arrays"), (0, u "copyOf"), (1, .fieldref 10 64), (0, .nameAndType 65 51), (0, u "modCount"), (0, .methodref 58 67), (0, .nameAndType 61 68), (0, u "([Ljava/lang/Object;I)[Ljava/lang/Object;"), (79, .class_ 149), (0, u "java/util/List"), (16, u "iterator"), (0, u "()Ljava/util/Iterator;"), (5, u "()Z"), (88, .class_ 263), (0, u "java/util/ArrayList$ListItr"), (3, .class_ 268), (0, u "java/util/ArrayList$Itr"), (0, .methodref 267 270), (0, .nameAndType 5 271), (0, u "(Ljava/util/ArrayList;)V"), (4, .class_ 277), (0, u "java/util/ArrayList$SubList"), (12, .class_ 291), (0, u "java/util/ArrayList$ArrayListSpliterator"), (37, .class_ 330), (0, u "java/util/RandomAccess"), (0, .class_ 332), (0, u "java/lang/Cloneable"), (0, .class_ 334), (0, u "java/io/Serializable"), (0, u "serialVersionUID"), (0, u "J"), (3, u "DEFAULT_CAPACITY"), (22, u "isEmpty"), (56, u "addAll"), (0, u "(Ljava/util/Collection;)Z"), (78, .class_ 501), (0, u "java/util/ArrayList$SubList$2"), (0, .class_ 503), (0, u "java/util/ArrayList$SubList$1")] 5

def k19c0 : Code := { maxStack := 2, maxLocals := 1, code := jdk_38_method_2_code, exceptionTable := #[], attributes := #[] }
def k19m0 : Method := { name := "<init>", desc := "()V", sig := { parameters := [], returnType := none }, accessFlags := 1, code := some k19c0 }
def k19c1 : Code := { maxStack := 1, maxLocals := 1, code := jdk_38_method_9_code, exceptionTable := #[], attributes := #[] }
def k19m1 : Method := { name := "isEmpty", desc := "()Z", sig := { parameters := [], returnType := some .boolean }, accessFlags := 1, code := some k19c1 }
def k19c2 : Code := { maxStack := 2, maxLocals := 1, code := jdk_38_method_16_code, exceptionTable := #[], attributes := #[] }
def k19m2 : Method := { name := "toArray", desc := "()[Ljava/lang/Object;", sig := { parameters := [], returnType := some (.array (.object "java/lang/Object")) }, accessFlags := 1, code := some k19c2 }
def k19c3 : Code := { maxStack := 5, maxLocals := 6, code := jdk_38_method_41_code, exceptionTable := #[], attributes := #[] }
def k19m3 : Method := { name := "addAll", desc := "(Ljava/util/Collection;)Z", sig := { parameters := [(.object "java/util/Collection")], returnType := some .boolean }, accessFlags := 1, code := some k19c3 }
def k19c4 : Code := { maxStack := 3, maxLocals := 1, code := jdk_38_method_55_code, exceptionTable := #[], attributes := #[] }
def k19m4 : Method := { name := "iterator", desc := "()Ljava/util/Iterator;", sig := { parameters := [], returnType := some (.object "java/util/Iterator") }, accessFlags := 1, code := some k19c4 }
/-- java/util/ArrayList -/
def k19 : Class := { plain "java/util/ArrayList" (some 16) with
  accessFlags := 33
  interfaces := #[13, 17, 18, 2]
  cf := some (fileOf pool19 10 #[.nestMembers #[290, 276, 500, 502, 262, 267]] #[{ accessFlags := 1, nameIndex := 5, descriptorIndex := 6, attributes := #[] }, { accessFlags := 1, nameIndex := 363, descriptorIndex := 173, attributes := #[] }, { accessFlags := 1, nameIndex := 46, descriptorIndex := 47, attributes := #[] }, { accessFlags := 1, nameIndex := 420, descriptorIndex := 421, attributes := #[] }, { accessFlags := 1, nameIndex := 166, descriptorIndex := 167, attributes := #[] }] 33 2 #[148, 329, 331, 333] #[{ accessFlags := 26, nameIndex := 335, descriptorIndex := 336, attributes := #[] }, { accessFlags := 26, nameIndex := 340, descriptorIndex := 51, attributes := #[] }, { accessFlags := 26, nameIndex := 17, descriptorIndex := 14, attributes := #[] }, { accessFlags := 26, nameIndex := 41, descriptorIndex := 14, attributes := #[] }, { accessFlags := 128, nameIndex := 13, descriptorIndex := 14, attributes := #[] }, { accessFlags := 2, nameIndex := 50, descriptorIndex := 51, attributes := #[] }])
  fields := #[{ name := "serialVersionUID", type := .long, accessFlags := 26, slot := 0, constantValue := 0 }, { name := "DEFAULT_CAPACITY", type := .int, accessFlags := 26, slot := 1, constantValue := 0 }, { name := "EMPTY_ELEMENTDATA", type := (.array (.object "java/lang/Object")), accessFlags := 26, slot := 2, constantValue := 0 }, { name := "DEFAULTCAPACITY_EMPTY_ELEMENTDATA", type := (.array (.object "java/lang/Object")), accessFlags := 26, slot := 3, constantValue := 0 }, { name := "elementData", type := (.array (.object "java/lang/Object")), accessFlags := 128, slot := 1, constantValue := 0 }, { name := "size", type := .int, accessFlags := 2, slot := 2, constantValue := 0 }]
  methods := #[k19m0, k19m1, k19m2, k19m3, k19m4]
  instanceTypes := #[.int, (.array (.object "java/lang/Object")), .int]
  staticTypes := #[.long, .int, (.array (.object "java/lang/Object")), (.array (.object "java/lang/Object"))]
  resolved := Array.replicate 509 none
  mirror := some 5
  statics := some 2 }

def pool20 : Array CpInfo := pool [(2, .class_ 4), (1, u "java/lang/Object"), (0, u "<init>"), (0, u "()V"), (1, .class_ 10), (1, u "java/util/List"), (2, .class_ 14), (0, u "java/util/RandomAccess"), (4, .class_ 20), (0, u "java/util/Collections"), (63, u "r"), (0, u "Ljava/util/Random;"), (67, u "(Ljava/util/List;)V"), (9, .nameAndType 164 165), (0, u "getClass"), (0, u "()Ljava/lang/Class;"), (0, .class_ 167), (0, u "java/util/Collections$UnmodifiableCollection"), (6, .class_ 175), (0, u "java/util/Collections$UnmodifiableSequencedCollection"), (6, .class_ 183), (0, u "java/util/Collections$UnmodifiableSet"), (6, .class_ 191), (0, u "java/util/Collections$UnmodifiableSequencedSet"), (6, .class_ 199), (0, u "java/util/Collections$UnmodifiableSortedSet"), (6, .class_ 207), (0, u "java/util/Collections$UnmodifiableNavigableSet"), (3, .interfaceMethodref 8 163), (0, .class_ 213), (0, u "java/util/Collections$UnmodifiableList"), (0, .interfaceMethodref 8 163), (0, .class_ 216), (0, u "java/util/Collections$UnmodifiableRandomAccessList"), (0, .methodref 215 218), (0, .nameAndType 5 153), (4, .class_ 224), (0, u "java/util/Collections$UnmodifiableMap"), (6, .class_ 232), (0, u "java/util/Collections$UnmodifiableSequencedMap"), (4, .class_ 238), (0, u "java/util/Collections$UnmodifiableSortedMap"), (6, .class_ 246), (0, u "java/util/Collections$UnmodifiableNavigableMap"), (3, .class_ 251), (0, u "java/util/Collections$SynchronizedCollection"), (4, .class_ 257), (0, u "java/util/Collections$SynchronizedSet"), (4, .class_ 263), (0, u "java/util/Collections$SynchronizedSortedSet"), (1, .class_ 266), (0, u "java/util/Collections$SynchronizedNavigableSet"), (1, .class_ 269), (0, u "java/util/Collections$SynchronizedRandomAccessList"), (1, .class_ 272), (0, u "java/util/Collections$SynchronizedList"), (5, .class_ 279), (0, u "java/util/Collections$SynchronizedMap"), (1, .class_ 282), (0, u "java/util/Collections$SynchronizedSortedMap"), (1, .class_ 285), (0, u "java/util/Collections$SynchronizedNavigableMap"), (1, .class_ 288), (0, u "java/util/Collections$CheckedCollection"), (11, .class_ 301), (0, u "java/util/Collections$CheckedQueue"), (3, .class_ 306), (0, u "java/util/Collections$CheckedSet"), (3, .class_ 311), (0, u "java/util/Collections$CheckedSortedSet"), (3, .class_ 316), (0, u "java/util/Collections$CheckedNavigableSet"), (3, .class_ 321), (0, u "java/util/Collections$CheckedRandomAccessList"), (3, .class_ 326), (0, u "java/util/Collections$CheckedList"), (1, .class_ 329), (0, u "java/util/Collections$CheckedMap"), (3, .class_ 334), (0, u "java/util/Collections$CheckedSortedMap"), (3, .class_ 339), (0, u "java/util/Collections$CheckedNavigableMap"), (4, .class_ 346), (1, u "java/util/Collections$EmptyIterator"), (3, .class_ 352), (1, u "java/util/Collections$EmptyListIterator"), (2, .class_ 357), (1, u "java/util/Collections$EmptyEnumeration"), (4, u "EMPTY_SET"), (0, u "Ljava/util/Set;"), (6, u "EMPTY_LIST"), (0, u "Ljava/util/List;"), (2, u "EMPTY_MAP"), (0, u "Ljava/util/Map;"), (4, .class_ 381), (0, u "java/util/Collections$SingletonSet"), (2, .class_ 385), (0, u "java/util/Collections$1"), (1, .class_ 388), (0, u "java/util/Collections$2"), (1, .class_ 391), (0, u "java/util/Collections$SingletonList"), (1, .class_ 394), (0, u "java/util/Collections$SingletonMap"), (22, .class_ 418), (0, u "java/util/Collections$CopiesList"), (4, .class_ 425), (1, u "java/util/Collections$ReverseComparator"), (8, .class_ 435), (0, u "java/util/Collections$ReverseComparator2"), (6, .class_ 443), (0, u "java/util/Collections$3"), (25, .class_ 470), (0, u "java/util/Collections$SetFromMap"), (2, .class_ 474), (0, u "java/util/Collections$SequencedSetFromMap"), (3, .class_ 479), (0, u "java/util/Collections$AsLIFOQueue"), (11, .class_ 492), (0, u "java/util/Collections$EmptySet"), (1, .class_ 495), (0, u "java/util/Collections$EmptyList"), (1, .class_ 498), (0, u "java/util/Collections$EmptyMap"), (1, u "BINARYSEARCH_THRESHOLD"), (0, u "I"), (2, u "REVERSE_THRESHOLD"), (1, u "SHUFFLE_THRESHOLD"), (1, u "FILL_THRESHOLD"), (1, u "ROTATE_THRESHOLD"), (1, u "COPY_THRESHOLD"), (1, u "REPLACEALL_THRESHOLD"), (1, u "INDEXOFSUBLIST_THRESHOLD"), (129, u "unmodifiableList"), (0, u "(Ljava/util/List;)Ljava/util/List;"), (202, .class_ 851), (0, u "java/util/Collections$CheckedMap$CheckedEntrySet"), (0, .class_ 853), (0, u "java/util/Collections$CheckedMap$CheckedEntrySet$CheckedEntry"), (0, .class_ 855), (0, u "java/util/Collections$CheckedMap$CheckedEntrySet$1"), (0, .class_ 857), (0, u "java/util/Collections$CheckedList$1"), (0, .class_ 859), (0, u "java/util/Collections$CheckedCollection$1"), (0, .class_ 861), (0, u "java/util/Collections$UnmodifiableNavigableMap$EmptyNavigableMap"), (0, .class_ 863), (0, u "java/util/Collections$UnmodifiableMap$UnmodifiableEntrySet"), (0, .class_ 865), (0, u "java/util/Collections$UnmodifiableMap$UnmodifiableEntrySet$UnmodifiableEntry"), (0, .class_ 867), (0, u "java/util/Collections$UnmodifiableMap$UnmodifiableEntrySet$UnmodifiableEntrySetSpliterator"), (0, .class_ 869), (0, u "java/util/Collections$UnmodifiableMap$UnmodifiableEntrySet$1"), (0, .class_ 871), (0, u "java/util/Collections$UnmodifiableList$1"), (0, .class_ 873), (0, u "java/util/Collections$UnmodifiableNavigableSet$EmptyNavigableSet"), (0, .class_ 875), (0, u "java/util/Collections$UnmodifiableCollection$1")] 57

def k20m0 : Method := { name := "<init>", desc := "()V", sig := { parameters := [], returnType := none }, accessFlags := 2, code := none }
def k20c1 : Code := { maxStack := 3, maxLocals := 1, code := jdk_79_method_35_code, exceptionTable := #[], attributes := #[] }
def k20m1 : Method := { name := "unmodifiableList", desc := "(Ljava/util/List;)Ljava/util/List;", sig := { parameters := [(.object "java/util/List")], returnType := some (.object "java/util/List") }, accessFlags := 9, code := some k20c1 }
/-- java/util/Collections -/
def k20 : Class := { plain "java/util/Collections" (some 0) with
  accessFlags := 33
  interfaces := #[]
  cf := some (fileOf pool20 19 #[.nestMembers #[478, 473, 469, 434, 423, 417, 393, 390, 380, 497, 494, 491, 355, 350, 344, 338, 333, 328, 850, 852, 854, 320, 325, 856, 315, 310, 305, 300, 287, 858, 284, 281, 278, 268, 271, 265, 262, 256, 250, 245, 860, 237, 231, 223, 862, 864, 866, 868, 215, 212, 870, 206, 872, 198, 190, 182, 174, 166, 874, 442, 387, 384]] #[{ accessFlags := 2, nameIndex := 5, descriptorIndex := 6, attributes := #[] }, { accessFlags := 9, nameIndex := 646, descriptorIndex := 647, attributes := #[] }] 33 2 #[] #[{ accessFlags := 26, nameIndex := 500, descriptorIndex := 501, attributes := #[] }, { accessFlags := 26, nameIndex := 504, descriptorIndex := 501, attributes := #[] }, { accessFlags := 26, nameIndex := 506, descriptorIndex := 501, attributes := #[] }, { accessFlags := 26, nameIndex := 508, descriptorIndex := 501, attributes := #[] }, { accessFlags := 26, nameIndex := 510, descriptorIndex := 501, attributes := #[] }, { accessFlags := 26, nameIndex := 512, descriptorIndex := 501, attributes := #[] }, { accessFlags := 26, nameIndex := 514, descriptorIndex := 501, attributes := #[] }, { accessFlags := 26, nameIndex := 516, descriptorIndex := 501, attributes := #[] }, { accessFlags := 10, nameIndex := 84, descriptorIndex := 85, attributes := #[] }, { accessFlags := 25, nameIndex := 362, descriptorIndex := 363, attributes := #[] }, { accessFlags := 25, nameIndex := 370, descriptorIndex := 371, attributes := #[] }, { accessFlags := 25, nameIndex := 374, descriptorIndex := 375, attributes := #[] }])
  fields := #[{ name := "BINARYSEARCH_THRESHOLD", type := .int, accessFlags := 26, slot := 0, constantValue := 0 }, { name := "REVERSE_THRESHOLD", type := .int, accessFlags := 26, slot := 1, constantValue := 0 }, { name := "SHUFFLE_THRESHOLD", type := .int, accessFlags := 26, slot := 2, constantValue := 0 }, { name := "FILL_THRESHOLD", type := .int, accessFlags := 26, slot := 3, constantValue := 0 }, { name := "ROTATE_THRESHOLD", type := .int, accessFlags := 26, slot := 4, constantValue := 0 }, { name := "COPY_THRESHOLD", type := .int, accessFlags := 26, slot := 5, constantValue := 0 }, { name := "REPLACEALL_THRESHOLD", type := .int, accessFlags := 26, slot := 6, constantValue := 0 }, { name := "INDEXOFSUBLIST_THRESHOLD", type := .int, accessFlags := 26, slot := 7, constantValue := 0 }, { name := "r", type := (.object "java/util/Random"), accessFlags := 10, slot := 8, constantValue := 0 }, { name := "EMPTY_SET", type := (.object "java/util/Set"), accessFlags := 25, slot := 9, constantValue := 0 }, { name := "EMPTY_LIST", type := (.object "java/util/List"), accessFlags := 25, slot := 10, constantValue := 0 }, { name := "EMPTY_MAP", type := (.object "java/util/Map"), accessFlags := 25, slot := 11, constantValue := 0 }]
  methods := #[k20m0, k20m1]
  instanceTypes := #[]
  staticTypes := #[.int, .int, .int, .int, .int, .int, .int, .int, (.object "java/util/Random"), (.object "java/util/Set"), (.object "java/util/List"), (.object "java/util/Map")]
  resolved := Array.replicate 933 none
  statics := none }

def pool21 : Array CpInfo := pool [(1, .methodref 2 3), (0, .class_ 4), (0, .nameAndType 5 6), (0, u "java/lang/Object"), (0, u "<init>"), (0, u "()V"), (3, .fieldref 11 12), (0, .class_ 13), (0, .nameAndType 14 15), (0, u "java/util/Collections$UnmodifiableCollection"), (0, u "c"), (0, u "Ljava/util/Collection;"), (1, .class_ 19), (1, u "java/util/Collection"), (51, .class_ 72), (0, u "java/io/Serializable"), (0, u "serialVersionUID"), (0, u "J"), (5, u "(Ljava/util/Collection;)V"), (51, .class_ 133), (0, u "java/util/Collections")] 2

def k21c0 : Code := { maxStack := 2, maxLocals := 2, code := jdk_119_method_1_code, exceptionTable := #[], attributes := #[] }
def k21m0 : Method := { name := "<init>", desc := "(Ljava/util/Collection;)V", sig := { parameters := [(.object "java/util/Collection")], returnType := none }, accessFlags := 0, code := some k21c0 }
/-- java/util/Collections$UnmodifiableCollection -/
def k21 : Class := { plain "java/util/Collections$UnmodifiableCollection" (some 0) with
  accessFlags := 32
  interfaces := #[11, 2]
  cf := some (fileOf pool21 11 #[.nestHost 132] #[{ accessFlags := 0, nameIndex := 5, descriptorIndex := 80, attributes := #[] }] 32 2 #[17, 71] #[{ accessFlags := 26, nameIndex := 73, descriptorIndex := 74, attributes := #[] }, { accessFlags := 16, nameIndex := 14, descriptorIndex := 15, attributes := #[] }])
  fields := #[{ name := "serialVersionUID", type := .long, accessFlags := 26, slot := 0, constantValue := 0 }, { name := "c", type := (.object "java/util/Collection"), accessFlags := 16, slot := 0, constantValue := 0 }]
  methods := #[k21m0]
  instanceTypes := #[(.object "java/util/Collection")]
  staticTypes := #[.long]
  resolved := Array.replicate 136 none
  statics := none }

def pool22 : Array CpInfo := pool [(1, .methodref 2 3), (0, .class_ 4), (0, .nameAndType 5 6), (0, u "java/util/Collections$UnmodifiableCollection"), (0, u "<init>"), (0, u "(Ljava/util/Collection;)V"), (0, .fieldref 8 9), (0, .class_ 10), (0, .nameAndType 11 12), (0, u "java/util/Collections$UnmodifiableList"), (0, u "list"), (0, u "Ljava/util/List;"), (1, .class_ 16), (1, u "java/util/List"), (37, u "(Ljava/util/List;)V"), (5, u "serialVersionUID"), (0, u "J"), (59, .class_ 122), (0, u "java/util/Collections")] 4

def k22c0 : Code := { maxStack := 2, maxLocals := 2, code := jdk_120_method_1_code, exceptionTable := #[], attributes := #[] }
def k22m0 : Method := { name := "<init>", desc := "(Ljava/util/List;)V", sig := { parameters := [(.object "java/util/List")], returnType := none }, accessFlags := 0, code := some k22c0 }
/-- java/util/Collections$UnmodifiableList -/
def k22 : Class := { plain "java/util/Collections$UnmodifiableList" (some 21) with
  accessFlags := 32
  interfaces := #[13]
  cf := some (fileOf pool22 8 #[.nestHost 121] #[{ accessFlags := 0, nameIndex := 5, descriptorIndex := 54, attributes := #[] }] 32 2 #[14] #[{ accessFlags := 26, nameIndex := 60, descriptorIndex := 61, attributes := #[] }, { accessFlags := 16, nameIndex := 11, descriptorIndex := 12, attributes := #[] }])
  fields := #[{ name := "serialVersionUID", type := .long, accessFlags := 26, slot := 0, constantValue := 0 }, { name := "list", type := (.object "java/util/List"), accessFlags := 16, slot := 1, constantValue := 0 }]
  methods := #[k22m0]
  instanceTypes := #[(.object "java/util/Collection"), (.object "java/util/List")]
  staticTypes := #[.long]
  resolved := Array.replicate 127 none
  mirror := some 6
  statics := none }

def pool23 : Array CpInfo := pool [(1, .methodref 2 3), (0, .class_ 4), (0, .nameAndType 5 6), (0, u "java/util/Collections$UnmodifiableList"), (0, u "<init>"), (0, u "(Ljava/util/List;)V"), (0, .class_ 8), (0, u "java/util/Collections$UnmodifiableRandomAccessList"), (11, .class_ 21), (0, u "java/util/RandomAccess"), (0, u "serialVersionUID"), (0, u "J"), (23, .class_ 48), (0, u "java/util/Collections")] 3

def k23c0 : Code := { maxStack := 2, maxLocals := 2, code := jdk_121_method_1_code, exceptionTable := #[], attributes := #[] }
def k23m0 : Method := { name := "<init>", desc := "(Ljava/util/List;)V", sig := { parameters := [(.object "java/util/List")], returnType := none }, accessFlags := 0, code := some k23c0 }
/-- java/util/Collections$UnmodifiableRandomAccessList -/
def k23 : Class := { plain "java/util/Collections$UnmodifiableRandomAccessList" (some 22) with
  accessFlags := 32
  interfaces := #[17]
  cf := some (fileOf pool23 7 #[.nestHost 47] #[{ accessFlags := 0, nameIndex := 5, descriptorIndex := 6, attributes := #[] }] 32 2 #[20] #[{ accessFlags := 26, nameIndex := 22, descriptorIndex := 23, attributes := #[] }])
  fields := #[{ name := "serialVersionUID", type := .long, accessFlags := 26, slot := 0, constantValue := 0 }]
  methods := #[k23m0]
  instanceTypes := #[(.object "java/util/Collection"), (.object "java/util/List")]
  staticTypes := #[.long]
  resolved := Array.replicate 52 none
  mirror := some 7
  statics := none }

def pool24 : Array CpInfo := pool [(1, .fieldref 2 3), (0, .class_ 4), (0, .nameAndType 5 6), (0, u "java/util/concurrent/CopyOnWriteArrayList"), (0, u "array"), (0, u "[Ljava/lang/Object;"), (0, .methodref 8 9), (0, .class_ 10), (0, .nameAndType 11 12), (0, u "java/lang/Object"), (0, u "<init>"), (0, u "()V"), (0, .fieldref 2 14), (0, .nameAndType 15 16), (0, u "lock"), (0, u "Ljava/lang/Object;"), (0, .methodref 2 18), (0, .nameAndType 19 20), (0, u "setArray"), (0, u "([Ljava/lang/Object;)V"), (6, .methodref 2 28), (0, .nameAndType 29 30), (0, u "getArray"), (0, u "()[Ljava/lang/Object;"), (123, u "iterator"), (0, u "()Ljava/util/Iterator;"), (109, .class_ 266), (0, u "java/util/List"), (8, .class_ 276), (0, u "java/util/concurrent/CopyOnWriteArrayList$COWIterator"), (0, .methodref 275 278), (0, .nameAndType 11 279), (0, u "([Ljava/lang/Object;I)V"), (8, .class_ 289), (0, u "java/util/concurrent/CopyOnWriteArrayList$COWSubList"), (3, .class_ 294), (0, u "java/util/concurrent/CopyOnWriteArrayList$Reversed"), (46, .class_ 342), (0, u "java/util/RandomAccess"), (0, .class_ 344), (0, u "java/lang/Cloneable"), (0, .class_ 346), (0, u "java/io/Serializable"), (0, u "serialVersionUID"), (0, u "J"), (166, .class_ 516), (0, u "java/util/concurrent/CopyOnWriteArrayList$Reversed$DescendingListIterator"), (0, .class_ 518), (0, u "java/util/concurrent/CopyOnWriteArrayList$Reversed$DescendingIterator"), (0, .class_ 520), (0, u "java/util/concurrent/CopyOnWriteArrayList$COWSubListIterator")] 32

def k24c0 : Code := { maxStack := 1, maxLocals := 1, code := jdk_2780_method_1_code, exceptionTable := #[], attributes := #[] }
def k24m0 : Method := { name := "getArray", desc := "()[Ljava/lang/Object;", sig := { parameters := [], returnType := some (.array (.object "java/lang/Object")) }, accessFlags := 16, code := some k24c0 }
def k24c1 : Code := { maxStack := 2, maxLocals := 2, code := jdk_2780_method_2_code, exceptionTable := #[], attributes := #[] }
def k24m1 : Method := { name := "setArray", desc := "([Ljava/lang/Object;)V", sig := { parameters := [(.array (.object "java/lang/Object"))], returnType := none }, accessFlags := 16, code := some k24c1 }
def k24c2 : Code := { maxStack := 3, maxLocals := 1, code := jdk_2780_method_3_code, exceptionTable := #[], attributes := #[] }
def k24m2 : Method := { name := "<init>", desc := "()V", sig := { parameters := [], returnType := none }, accessFlags := 1, code := some k24c2 }
def k24c3 : Code := { maxStack := 4, maxLocals := 1, code := jdk_2780_method_60_code, exceptionTable := #[], attributes := #[] }
def k24m3 : Method := { name := "iterator", desc := "()Ljava/util/Iterator;", sig := { parameters := [], returnType := some (.object "java/util/Iterator") }, accessFlags := 1, code := some k24c3 }
/-- java/util/concurrent/CopyOnWriteArrayList -/
def k24 : Class := { plain "java/util/concurrent/CopyOnWriteArrayList" (some 0) with
  accessFlags := 33
  interfaces := #[13, 17, 18, 2]
  cf := some (fileOf pool24 2 #[.nestMembers #[293, 515, 517, 519, 288, 275]] #[{ accessFlags := 16, nameIndex := 29, descriptorIndex := 30, attributes := #[] }, { accessFlags := 16, nameIndex := 19, descriptorIndex := 20, attributes := #[] }, { accessFlags := 1, nameIndex := 11, descriptorIndex := 12, attributes := #[] }, { accessFlags := 1, nameIndex := 154, descriptorIndex := 155, attributes := #[] }] 33 8 #[265, 341, 343, 345] #[{ accessFlags := 26, nameIndex := 347, descriptorIndex := 348, attributes := #[] }, { accessFlags := 144, nameIndex := 15, descriptorIndex := 16, attributes := #[] }, { accessFlags := 194, nameIndex := 5, descriptorIndex := 6, attributes := #[] }])
  fields := #[{ name := "serialVersionUID", type := .long, accessFlags := 26, slot := 0, constantValue := 0 }, { name := "lock", type := (.object "java/lang/Object"), accessFlags := 144, slot := 0, constantValue := 0 }, { name := "array", type := (.array (.object "java/lang/Object")), accessFlags := 194, slot := 1, constantValue := 0 }]
  methods := #[k24m0, k24m1, k24m2, k24m3]
  instanceTypes := #[(.object "java/lang/Object"), (.array (.object "java/lang/Object"))]
  staticTypes := #[.long]
  resolved := Array.replicate 553 none
  statics := none }

def pool25 : Array CpInfo := pool [(2, .class_ 4), (1, u "java/lang/Enum"), (0, u "name"), (0, u "Ljava/lang/String;"), (2, u "ordinal"), (0, u "I"), (1, .class_ 14), (1, u "java/lang/Object"), (4, u "hash"), (86, .class_ 108), (1, u "java/lang/Enum$EnumDesc"), (2, .class_ 112), (0, u "java/lang/constant/Constable"), (0, .class_ 114), (0, u "java/lang/Comparable"), (0, .class_ 116), (0, u "java/io/Serializable")] 87

/-- java/lang/Enum -/
def k25 : Class := { plain "java/lang/Enum" (some 0) with
  accessFlags := 1057
  interfaces := #[5, 3, 2]
  cf := some (fileOf pool25 2 #[.nestMembers #[106]] #[] 1057 12 #[111, 113, 115] #[{ accessFlags := 18, nameIndex := 5, descriptorIndex := 6, attributes := #[] }, { accessFlags := 18, nameIndex := 9, descriptorIndex := 10, attributes := #[] }, { accessFlags := 2, nameIndex := 19, descriptorIndex := 10, attributes := #[] }])
  fields := #[{ name := "name", type := (.object "java/lang/String"), accessFlags := 18, slot := 0, constantValue := 0 }, { name := "ordinal", type := .int, accessFlags := 18, slot := 1, constantValue := 0 }, { name := "hash", type := .int, accessFlags := 2, slot := 2, constantValue := 0 }]
  methods := #[]
  instanceTypes := #[(.object "java/lang/String"), .int, .int]
  staticTypes := #[]
  resolved := Array.replicate 204 none
  statics := none }

def pool26 : Array CpInfo := pool [(1, .class_ 2), (0, u "com/example/temanggung/temanggung/beans/factory/Autowire"), (2, u "NO"), (0, u "Lcom/example/temanggung/temanggung/beans/factory/Autowire;"), (2, u "BY_NAME"), (2, u "BY_TYPE"), (2, u "CONSTRUCTOR"), (2, u "$VALUES"), (0, u "[Lcom/example/temanggung/temanggung/beans/factory/Autowire;"), (6, .class_ 28), (1, u "java/lang/Enum")] 26

/-- com/example/temanggung/temanggung/beans/factory/Autowire -/
def k26 : Class := { plain "com/example/temanggung/temanggung/beans/factory/Autowire" (some 25) with
  accessFlags := 16433
  interfaces := #[]
  cf := some (fileOf pool26 1 #[] #[] 16433 26 #[] #[{ accessFlags := 16409, nameIndex := 5, descriptorIndex := 6, attributes := #[] }, { accessFlags := 16409, nameIndex := 9, descriptorIndex := 6, attributes := #[] }, { accessFlags := 16409, nameIndex := 12, descriptorIndex := 6, attributes := #[] }, { accessFlags := 16409, nameIndex := 15, descriptorIndex := 6, attributes := #[] }, { accessFlags := 4122, nameIndex := 18, descriptorIndex := 19, attributes := #[] }])
  fields := #[{ name := "NO", type := (.object "com/example/temanggung/temanggung/beans/factory/Autowire"), accessFlags := 16409, slot := 0, constantValue := 0 }, { name := "BY_NAME", type := (.object "com/example/temanggung/temanggung/beans/factory/Autowire"), accessFlags := 16409, slot := 1, constantValue := 0 }, { name := "BY_TYPE", type := (.object "com/example/temanggung/temanggung/beans/factory/Autowire"), accessFlags := 16409, slot := 2, constantValue := 0 }, { name := "CONSTRUCTOR", type := (.object "com/example/temanggung/temanggung/beans/factory/Autowire"), accessFlags := 16409, slot := 3, constantValue := 0 }, { name := "$VALUES", type := (.array (.object "com/example/temanggung/temanggung/beans/factory/Autowire")), accessFlags := 4122, slot := 4, constantValue := 0 }]
  methods := #[]
  instanceTypes := #[(.object "java/lang/String"), .int, .int]
  staticTypes := #[(.object "com/example/temanggung/temanggung/beans/factory/Autowire"), (.object "com/example/temanggung/temanggung/beans/factory/Autowire"), (.object "com/example/temanggung/temanggung/beans/factory/Autowire"), (.object "com/example/temanggung/temanggung/beans/factory/Autowire"), (.array (.object "com/example/temanggung/temanggung/beans/factory/Autowire"))]
  resolved := Array.replicate 55 none
  statics := some 3 }

def pool27 : Array CpInfo := pool [(16, .class_ 18), (1, u "java/util/Iterator"), (0, u "hasNext"), (0, u "()Z"), (10, .class_ 32), (0, u "java/lang/Object")] 20

def k27m0 : Method := { name := "hasNext", desc := "()Z", sig := { parameters := [], returnType := some .boolean }, accessFlags := 1025, code := none }
/-- java/util/Iterator -/
def k27 : Class := { plain "java/util/Iterator" (some 0) with
  accessFlags := 1537
  interfaces := #[]
  cf := some (fileOf pool27 16 #[] #[{ accessFlags := 1025, nameIndex := 19, descriptorIndex := 20, attributes := #[] }] 1537 31 #[] #[])
  fields := #[]
  methods := #[k27m0]
  instanceTypes := #[]
  staticTypes := #[]
  resolved := Array.replicate 53 none
  statics := none }

def pool28 : Array CpInfo := pool [(1, .class_ 2), (0, u "java/util/ListIterator"), (0, .class_ 4), (0, u "java/lang/Object"), (0, .class_ 6), (0, u "java/util/Iterator")] 20

/-- java/util/ListIterator -/
def k28 : Class := { plain "java/util/ListIterator" (some 0) with
  accessFlags := 1537
  interfaces := #[27]
  cf := some (fileOf pool28 1 #[] #[] 1537 3 #[5] #[])
  fields := #[]
  methods := #[]
  instanceTypes := #[]
  staticTypes := #[]
  resolved := Array.replicate 27 none
  statics := none }

def pool29 : Array CpInfo := pool [(1, .methodref 2 3), (0, .class_ 4), (0, .nameAndType 5 6), (0, u "java/lang/Object"), (0, u "<init>"), (0, u "()V"), (0, .fieldref 8 9), (0, .class_ 10), (0, .nameAndType 11 12), (0, u "java/util/concurrent/CopyOnWriteArrayList$COWIterator"), (0, u "cursor"), (0, u "I"), (0, .fieldref 8 14), (0, .nameAndType 15 16), (0, u "snapshot"), (0, u "[Ljava/lang/Object;"), (2, u "hasNext"), (0, u "()Z"), (16, .class_ 39), (1, u "java/util/concurrent/CopyOnWriteArrayList"), (8, .class_ 49), (0, u "java/util/ListIterator"), (0, u "([Ljava/lang/Object;I)V")] 39

def k29c0 : Code := { maxStack := 2, maxLocals := 3, code := jdk_2781_method_1_code, exceptionTable := #[], attributes := #[] }
def k29m0 : Method := { name := "<init>", desc := "([Ljava/lang/Object;I)V", sig := { parameters := [(.array (.object "java/lang/Object")), .int], returnType := none }, accessFlags := 0, code := some k29c0 }
def k29c1 : Code := { maxStack := 2, maxLocals := 1, code := jdk_2781_method_2_code, exceptionTable := #[], attributes := #[] }
def k29m1 : Method := { name := "hasNext", desc := "()Z", sig := { parameters := [], returnType := some .boolean }, accessFlags := 1, code := some k29c1 }
/-- java/util/concurrent/CopyOnWriteArrayList$COWIterator -/
def k29 : Class := { plain "java/util/concurrent/CopyOnWriteArrayList$COWIterator" (some 0) with
  accessFlags := 48
  interfaces := #[28]
  cf := some (fileOf pool29 8 #[.nestHost 37] #[{ accessFlags := 0, nameIndex := 5, descriptorIndex := 50, attributes := #[] }, { accessFlags := 1, nameIndex := 19, descriptorIndex := 20, attributes := #[] }] 48 2 #[48] #[{ accessFlags := 18, nameIndex := 15, descriptorIndex := 16, attributes := #[] }, { accessFlags := 2, nameIndex := 11, descriptorIndex := 12, attributes := #[] }])
  fields := #[{ name := "snapshot", type := (.array (.object "java/lang/Object")), accessFlags := 18, slot := 0, constantValue := 0 }, { name := "cursor", type := .int, accessFlags := 2, slot := 1, constantValue := 0 }]
  methods := #[k29m0, k29m1]
  instanceTypes := #[(.array (.object "java/lang/Object")), .int]
  staticTypes := #[]
  resolved := Array.replicate 90 none
  statics := none }

def pool30 : Array CpInfo := pool [(2, .class_ 4), (1, u "java/util/AbstractCollection"), (0, u "<init>"), (0, u "()V"), (1, .class_ 10), (1, u "java/util/ImmutableCollections"), (2, .class_ 14), (0, u "java/util/ImmutableCollections$AbstractImmutableCollection")] 41

def k30m0 : Method := { name := "<init>", desc := "()V", sig := { parameters := [], returnType := none }, accessFlags := 0, code := none }
/-- java/util/ImmutableCollections$AbstractImmutableCollection -/
def k30 : Class := { plain "java/util/ImmutableCollections$AbstractImmutableCollection" (some 15) with
  accessFlags := 1056
  interfaces := #[]
  cf := some (fileOf pool30 13 #[.nestHost 8] #[{ accessFlags := 0, nameIndex := 5, descriptorIndex := 6, attributes := #[] }] 1056 2 #[] #[])
  fields := #[]
  methods := #[k30m0]
  instanceTypes := #[]
  staticTypes := #[]
  resolved := Array.replicate 56 none
  statics := none }

def pool31 : Array CpInfo := pool [(2, .class_ 4), (1, u "java/util/ImmutableCollections$AbstractImmutableCollection"), (0, u "<init>"), (0, u "()V"), (1, .class_ 10), (1, u "java/util/ImmutableCollections"), (3, .class_ 16), (1, u "java/util/ImmutableCollections$AbstractImmutableList"), (60, .class_ 78), (0, u "java/util/List"), (45, .class_ 125), (0, u "java/util/RandomAccess")] 70

def k31m0 : Method := { name := "<init>", desc := "()V", sig := { parameters := [], returnType := none }, accessFlags := 0, code := none }
/-- java/util/ImmutableCollections$AbstractImmutableList -/
def k31 : Class := { plain "java/util/ImmutableCollections$AbstractImmutableList" (some 30) with
  accessFlags := 1056
  interfaces := #[13, 17]
  cf := some (fileOf pool31 14 #[.nestHost 8] #[{ accessFlags := 0, nameIndex := 5, descriptorIndex := 6, attributes := #[] }] 1056 2 #[77, 124] #[])
  fields := #[]
  methods := #[k31m0]
  instanceTypes := #[]
  staticTypes := #[]
  resolved := Array.replicate 196 none
  statics := none }

def pool32 : Array CpInfo := pool [(2, .class_ 4), (1, u "java/util/ImmutableCollections$AbstractImmutableList"), (2, .fieldref 8 9), (0, .class_ 10), (0, .nameAndType 11 12), (0, u "java/util/ImmutableCollections$ListN"), (0, u "elements"), (0, u "[Ljava/lang/Object;"), (2, u "allowNulls"), (0, u "Z"), (42, .class_ 60), (0, u "java/io/Serializable"), (13, u "isEmpty"), (0, u "()Z"), (38, .class_ 115), (0, u "java/util/ImmutableCollections")] 3

def k32c0 : Code := { maxStack := 1, maxLocals := 1, code := jdk_45_method_2_code, exceptionTable := #[], attributes := #[] }
def k32m0 : Method := { name := "isEmpty", desc := "()Z", sig := { parameters := [], returnType := some .boolean }, accessFlags := 1, code := some k32c0 }
/-- java/util/ImmutableCollections$ListN -/
def k32 : Class := { plain "java/util/ImmutableCollections$ListN" (some 31) with
  accessFlags := 48
  interfaces := #[2]
  cf := some (fileOf pool32 8 #[.nestHost 114] #[{ accessFlags := 1, nameIndex := 74, descriptorIndex := 75, attributes := #[] }] 48 2 #[59] #[{ accessFlags := 18, nameIndex := 11, descriptorIndex := 12, attributes := #[] }, { accessFlags := 18, nameIndex := 15, descriptorIndex := 16, attributes := #[] }])
  fields := #[{ name := "elements", type := (.array (.object "java/lang/Object")), accessFlags := 18, slot := 0, constantValue := 0 }, { name := "allowNulls", type := .boolean, accessFlags := 18, slot := 1, constantValue := 0 }]
  methods := #[k32m0]
  instanceTypes := #[(.array (.object "java/lang/Object")), .boolean]
  staticTypes := #[]
  resolved := Array.replicate 119 none
  statics := none }

def pool33 : Array CpInfo := pool [(2, .class_ 4), (1, u "java/lang/Object"), (0, u "<init>"), (0, u "()V"), (7, .class_ 16), (1, u "java/util/Arrays"), (57, .class_ 76), (1, u "java/util/Arrays$NaturalOrder"), (9, .methodref 2 87), (0, .nameAndType 88 89), (0, u "getClass"), (0, u "()Ljava/lang/Class;"), (20, .class_ 111), (0, u "[Ljava/lang/Object;"), (1, .class_ 115), (1, u "java/util/Arrays$LegacyMergeSort"), (1, u "Z"), (32, .methodref 151 152), (0, .class_ 153), (0, .nameAndType 154 155), (0, u "java/lang/System"), (0, u "arraycopy"), (0, u "(Ljava/lang/Object;ILjava/lang/Object;II)V"), (144, .methodref 14 301), (0, .nameAndType 302 303), (0, u "copyOf"), (0, u "([Ljava/lang/Object;ILjava/lang/Class;)[Ljava/lang/Object;"), (0, .methodref 305 306), (0, .class_ 307), (0, .nameAndType 308 309), (0, u "java/lang/Math"), (0, u "min"), (0, u "(II)I"), (65, .class_ 376), (0, u "java/util/Arrays$ArrayList"), (68, u "$assertionsDisabled"), (269, u "MIN_ARRAY_SORT_GRAN"), (0, u "I"), (2, u "INSERTIONSORT_THRESHOLD"), (140, u "([Ljava/lang/Object;I)[Ljava/lang/Object;"), (114, .class_ 976), (0, u "java/util/Arrays$ArrayItr")] 52

def k33m0 : Method := { name := "<init>", desc := "()V", sig := { parameters := [], returnType := none }, accessFlags := 2, code := none }
def k33c1 : Code := { maxStack := 3, maxLocals := 2, code := jdk_65_method_119_code, exceptionTable := #[], attributes := #[] }
def k33m1 : Method := { name := "copyOf", desc := "([Ljava/lang/Object;I)[Ljava/lang/Object;", sig := { parameters := [(.array (.object "java/lang/Object")), .int], returnType := some (.array (.object "java/lang/Object")) }, accessFlags := 9, code := some k33c1 }
def k33c2 : Code := { maxStack := 6, maxLocals := 4, code := jdk_65_method_120_code, exceptionTable := #[], attributes := #[] }
def k33m2 : Method := { name := "copyOf", desc := "([Ljava/lang/Object;ILjava/lang/Class;)[Ljava/lang/Object;", sig := { parameters := [(.array (.object "java/lang/Object")), .int, (.object "java/lang/Class")], returnType := some (.array (.object "java/lang/Object")) }, accessFlags := 9, code := some k33c2 }
/-- java/util/Arrays -/
def k33 : Class := { plain "java/util/Arrays" (some 0) with
  accessFlags := 49
  interfaces := #[]
  cf := some (fileOf pool33 14 #[.nestMembers #[975, 375, 113, 74]] #[{ accessFlags := 2, nameIndex := 5, descriptorIndex := 6, attributes := #[] }, { accessFlags := 9, nameIndex := 302, descriptorIndex := 860, attributes := #[] }, { accessFlags := 9, nameIndex := 302, descriptorIndex := 303, attributes := #[] }] 49 2 #[] #[{ accessFlags := 26, nameIndex := 715, descriptorIndex := 716, attributes := #[] }, { accessFlags := 26, nameIndex := 719, descriptorIndex := 716, attributes := #[] }, { accessFlags := 4120, nameIndex := 445, descriptorIndex := 117, attributes := #[] }])
  fields := #[{ name := "MIN_ARRAY_SORT_GRAN", type := .int, accessFlags := 26, slot := 0, constantValue := 0 }, { name := "INSERTIONSORT_THRESHOLD", type := .int, accessFlags := 26, slot := 1, constantValue := 0 }, { name := "$assertionsDisabled", type := .boolean, accessFlags := 4120, slot := 2, constantValue := 0 }]
  methods := #[k33m0, k33m1, k33m2]
  instanceTypes := #[]
  staticTypes := #[.int, .int, .boolean]
  resolved := Array.replicate 1029 none
  statics := none }

def pool34 : Array CpInfo := pool [(1, .class_ 2), (0, u "java/lang/Math"), (1, .class_ 6), (1, u "java/lang/Object"), (0, u "<init>"), (0, u "()V"), (89, .class_ 100), (1, u "java/lang/Math$RandomNumberGeneratorHolder"), (71, u "negativeZeroFloatBits"), (0, u "J"), (2, u "negativeZeroDoubleBits"), (24, u "min"), (43, u "$assertionsDisabled"), (0, u "Z"), (88, u "(II)I"), (2, u "twoToTheDoubleScaleDown"), (0, u "D"), (4, u "twoToTheDoubleScaleUp"), (9, u "E"), (3, u "PI"), (2, u "TAU"), (2, u "DEGREES_TO_RADIANS"), (0, u "RADIANS_TO_DEGREES")] 94

def k34m0 : Method := { name := "<init>", desc := "()V", sig := { parameters := [], returnType := none }, accessFlags := 2, code := none }
def k34c1 : Code := { maxStack := 2, maxLocals := 2, code := jdk_29_method_69_code, exceptionTable := #[], attributes := #[] }
def k34m1 : Method := { name := "min", desc := "(II)I", sig := { parameters := [.int, .int], returnType := some .int }, accessFlags := 9, code := some k34c1 }
/-- java/lang/Math -/
def k34 : Class := { plain "java/lang/Math" (some 0) with
  accessFlags := 49
  interfaces := #[]
  cf := some (fileOf pool34 1 #[.nestMembers #[98]] #[{ accessFlags := 2, nameIndex := 7, descriptorIndex := 8, attributes := #[] }, { accessFlags := 9, nameIndex := 201, descriptorIndex := 335, attributes := #[] }] 49 4 #[] #[{ accessFlags := 25, nameIndex := 354, descriptorIndex := 339, attributes := #[] }, { accessFlags := 25, nameIndex := 358, descriptorIndex := 339, attributes := #[] }, { accessFlags := 25, nameIndex := 361, descriptorIndex := 339, attributes := #[] }, { accessFlags := 26, nameIndex := 364, descriptorIndex := 339, attributes := #[] }, { accessFlags := 26, nameIndex := 365, descriptorIndex := 339, attributes := #[] }, { accessFlags := 26, nameIndex := 172, descriptorIndex := 173, attributes := #[] }, { accessFlags := 26, nameIndex := 176, descriptorIndex := 173, attributes := #[] }, { accessFlags := 8, nameIndex := 344, descriptorIndex := 339, attributes := #[] }, { accessFlags := 8, nameIndex := 338, descriptorIndex := 339, attributes := #[] }, { accessFlags := 4120, nameIndex := 245, descriptorIndex := 246, attributes := #[] }])
  fields := #[{ name := "E", type := .double, accessFlags := 25, slot := 0, constantValue := 0 }, { name := "PI", type := .double, accessFlags := 25, slot := 1, constantValue := 0 }, { name := "TAU", type := .double, accessFlags := 25, slot := 2, constantValue := 0 }, { name := "DEGREES_TO_RADIANS", type := .double, accessFlags := 26, slot := 3, constantValue := 0 }, { name := "RADIANS_TO_DEGREES", type := .double, accessFlags := 26, slot := 4, constantValue := 0 }, { name := "negativeZeroFloatBits", type := .long, accessFlags := 26, slot := 5, constantValue := 0 }, { name := "negativeZeroDoubleBits", type := .long, accessFlags := 26, slot := 6, constantValue := 0 }, { name := "twoToTheDoubleScaleUp", type := .double, accessFlags := 8, slot := 7, constantValue := 0 }, { name := "twoToTheDoubleScaleDown", type := .double, accessFlags := 8, slot := 8, constantValue := 0 }, { name := "$assertionsDisabled", type := .boolean, accessFlags := 4120, slot := 9, constantValue := 0 }]
  methods := #[k34m0, k34m1]
  instanceTypes := #[]
  staticTypes := #[.double, .double, .double, .double, .double, .long, .long, .double, .double, .boolean]
  resolved := Array.replicate 460 none
  statics := none }

def pool35 : Array CpInfo := pool [(2, .class_ 4), (1, u "java/lang/Object"), (0, u "<init>"), (0, u "()V"), (1, .class_ 10), (1, u "java/lang/System"), (0, u "allowSecurityManager"), (0, u "I"), (16, u "cons"), (0, u "Ljava/io/Console;"), (77, .class_ 110), (1, u "java/lang/System$CallersHolder"), (43, u "initialErrStream"), (0, u "Ljava/io/PrintStream;"), (19, u "security"), (0, u "Ljava/lang/SecurityManager;"), (31, .class_ 209), (0, u "java/lang/System$1"), (7, u "props"), (0, u "Ljava/util/Properties;"), (2, u "lineSeparator"), (0, u "Ljava/lang/String;"), (96, .class_ 321), (1, u "java/lang/System$LoggerFinder"), (5, .class_ 328), (0, u "java/lang/System$Logger"), (67, u "err"), (2, u "out"), (91, u "notSupportedJnuEncoding"), (15, u "in"), (17, u "initialIn"), (0, u "Ljava/io/InputStream;"), (35, u "bootLayer"), (0, u "Ljava/lang/ModuleLayer;"), (99, .class_ 664), (0, u "java/lang/System$2"), (9, u "NEVER"), (2, u "MAYBE"), (49, u "arraycopy"), (0, u "(Ljava/lang/Object;ILjava/lang/Object;II)V"), (72, .class_ 802), (0, u "java/lang/System$Logger$Level")] 31

def k35m0 : Method := { name := "<init>", desc := "()V", sig := { parameters := [], returnType := none }, accessFlags := 2, code := none }
def k35m1 : Method := { name := "arraycopy", desc := "(Ljava/lang/Object;ILjava/lang/Object;II)V", sig := { parameters := [(.object "java/lang/Object"), .int, (.object "java/lang/Object"), .int, .int], returnType := none }, accessFlags := 265, code := none }
/-- java/lang/System -/
def k35 : Class := { plain "java/lang/System" (some 0) with
  accessFlags := 49
  interfaces := #[]
  cf := some (fileOf pool35 8 #[.nestMembers #[319, 327, 801, 108, 663, 208]] #[{ accessFlags := 2, nameIndex := 5, descriptorIndex := 6, attributes := #[] }, { accessFlags := 265, nameIndex := 727, descriptorIndex := 728, attributes := #[] }] 49 2 #[] #[{ accessFlags := 25, nameIndex := 507, descriptorIndex := 526, attributes := #[] }, { accessFlags := 25, nameIndex := 399, descriptorIndex := 155, attributes := #[] }, { accessFlags := 25, nameIndex := 396, descriptorIndex := 155, attributes := #[] }, { accessFlags := 10, nameIndex := 525, descriptorIndex := 526, attributes := #[] }, { accessFlags := 26, nameIndex := 674, descriptorIndex := 12, attributes := #[] }, { accessFlags := 26, nameIndex := 677, descriptorIndex := 12, attributes := #[] }, { accessFlags := 10, nameIndex := 11, descriptorIndex := 12, attributes := #[] }, { accessFlags := 74, nameIndex := 175, descriptorIndex := 176, attributes := #[] }, { accessFlags := 10, nameIndex := 491, descriptorIndex := 222, attributes := #[] }, { accessFlags := 74, nameIndex := 29, descriptorIndex := 30, attributes := #[] }, { accessFlags := 74, nameIndex := 154, descriptorIndex := 155, attributes := #[] }, { accessFlags := 10, nameIndex := 217, descriptorIndex := 218, attributes := #[] }, { accessFlags := 10, nameIndex := 221, descriptorIndex := 222, attributes := #[] }, { accessFlags := 8, nameIndex := 562, descriptorIndex := 563, attributes := #[] }])
  fields := #[{ name := "in", type := (.object "java/io/InputStream"), accessFlags := 25, slot := 0, constantValue := 0 }, { name := "out", type := (.object "java/io/PrintStream"), accessFlags := 25, slot := 1, constantValue := 0 }, { name := "err", type := (.object "java/io/PrintStream"), accessFlags := 25, slot := 2, constantValue := 0 }, { name := "initialIn", type := (.object "java/io/InputStream"), accessFlags := 10, slot := 3, constantValue := 0 }, { name := "NEVER", type := .int, accessFlags := 26, slot := 4, constantValue := 0 }, { name := "MAYBE", type := .int, accessFlags := 26, slot := 5, constantValue := 0 }, { name := "allowSecurityManager", type := .int, accessFlags := 10, slot := 6, constantValue := 0 }, { name := "security", type := (.object "java/lang/SecurityManager"), accessFlags := 74, slot := 7, constantValue := 0 }, { name := "notSupportedJnuEncoding", type := (.object "java/lang/String"), accessFlags := 10, slot := 8, constantValue := 0 }, { name := "cons", type := (.object "java/io/Console"), accessFlags := 74, slot := 9, constantValue := 0 }, { name := "initialErrStream", type := (.object "java/io/PrintStream"), accessFlags := 74, slot := 10, constantValue := 0 }, { name := "props", type := (.object "java/util/Properties"), accessFlags := 10, slot := 11, constantValue := 0 }, { name := "lineSeparator", type := (.object "java/lang/String"), accessFlags := 10, slot := 12, constantValue := 0 }, { name := "bootLayer", type := (.object "java/lang/ModuleLayer"), accessFlags := 8, slot := 13, constantValue := 0 }]
  methods := #[k35m0, k35m1]
  instanceTypes := #[]
  staticTypes := #[(.object "java/io/InputStream"), (.object "java/io/PrintStream"), (.object "java/io/PrintStream"), (.object "java/io/InputStream"), .int, .int, .int, (.object "java/lang/SecurityManager"), (.object "java/lang/String"), (.object "java/io/Console"), (.object "java/io/PrintStream"), (.object "java/util/Properties"), (.object "java/lang/String"), (.object "java/lang/ModuleLayer")]
  resolved := Array.replicate 834 none
  statics := none }

def pool36 : Array CpInfo := pool [(1, .fieldref 2 3), (0, .class_ 4), (0, .nameAndType 5 6), (0, u "java/util/ArrayList$Itr"), (0, u "this$0"), (0, u "Ljava/util/ArrayList;"), (0, .methodref 8 9), (0, .class_ 10), (0, .nameAndType 11 12), (0, u "java/lang/Object"), (0, u "<init>"), (0, u "()V"), (0, .fieldref 2 14), (0, .nameAndType 15 16), (0, u "lastRet"), (0, u "I"), (0, .fieldref 18 19), (0, .class_ 20), (0, .nameAndType 21 16), (0, u "java/util/ArrayList"), (0, u "modCount"), (0, .fieldref 2 23), (0, .nameAndType 24 16), (0, u "expectedModCount"), (0, .fieldref 2 26), (0, .nameAndType 27 16), (0, u "cursor"), (0, .fieldref 18 29), (0, .nameAndType 30 16), (0, u "size"), (38, .class_ 70), (0, u "java/util/Iterator"), (0, u "(Ljava/util/ArrayList;)V"), (8, u "hasNext"), (0, u "()Z")] 22

def k36c0 : Code := { maxStack := 2, maxLocals := 2, code := jdk_49_method_1_code, exceptionTable := #[], attributes := #[] }
def k36m0 : Method := { name := "<init>", desc := "(Ljava/util/ArrayList;)V", sig := { parameters := [(.object "java/util/ArrayList")], returnType := none }, accessFlags := 0, code := some k36c0 }
def k36c1 : Code := { maxStack := 2, maxLocals := 1, code := jdk_49_method_2_code, exceptionTable := #[], attributes := #[] }
def k36m1 : Method := { name := "hasNext", desc := "()Z", sig := { parameters := [], returnType := some .boolean }, accessFlags := 1, code := some k36c1 }
/-- java/util/ArrayList$Itr -/
def k36 : Class := { plain "java/util/ArrayList$Itr" (some 0) with
  accessFlags := 32
  interfaces := #[27]
  cf := some (fileOf pool36 2 #[.nestHost 18] #[{ accessFlags := 0, nameIndex := 11, descriptorIndex := 71, attributes := #[] }, { accessFlags := 1, nameIndex := 80, descriptorIndex := 81, attributes := #[] }] 32 8 #[69] #[{ accessFlags := 0, nameIndex := 27, descriptorIndex := 16, attributes := #[] }, { accessFlags := 0, nameIndex := 15, descriptorIndex := 16, attributes := #[] }, { accessFlags := 0, nameIndex := 24, descriptorIndex := 16, attributes := #[] }, { accessFlags := 4112, nameIndex := 5, descriptorIndex := 6, attributes := #[] }])
  fields := #[{ name := "cursor", type := .int, accessFlags := 0, slot := 0, constantValue := 0 }, { name := "lastRet", type := .int, accessFlags := 0, slot := 1, constantValue := 0 }, { name := "expectedModCount", type := .int, accessFlags := 0, slot := 2, constantValue := 0 }, { name := "this$0", type := (.object "java/util/ArrayList"), accessFlags := 4112, slot := 3, constantValue := 0 }]
  methods := #[k36m0, k36m1]
  instanceTypes := #[.int, .int, .int, (.object "java/util/ArrayList")]
  staticTypes := #[]
  resolved := Array.replicate 104 none
  statics := none }

def pool37 : Array CpInfo := pool [(2, .class_ 4), (1, u "java/lang/Object"), (0, u "<init>"), (0, u "()V"), (17, .class_ 26), (1, u "jdk/internal/util/Preconditions"), (28, .class_ 56), (0, u "jdk/internal/util/Preconditions$4"), (57, .class_ 115), (0, u "jdk/internal/util/Preconditions$1"), (7, u "SIOOBE_FORMATTER"), (0, u "Ljava/util/function/BiFunction;"), (0, .class_ 126), (0, u "jdk/internal/util/Preconditions$2"), (3, u "AIOOBE_FORMATTER"), (0, .class_ 132), (0, u "jdk/internal/util/Preconditions$3"), (3, u "IOOBE_FORMATTER")] 57

def k37m0 : Method := { name := "<init>", desc := "()V", sig := { parameters := [], returnType := none }, accessFlags := 1, code := none }
/-- jdk/internal/util/Preconditions -/
def k37 : Class := { plain "jdk/internal/util/Preconditions" (some 0) with
  accessFlags := 33
  interfaces := #[]
  cf := some (fileOf pool37 24 #[.nestMembers #[55, 131, 125, 114]] #[{ accessFlags := 1, nameIndex := 5, descriptorIndex := 6, attributes := #[] }] 33 2 #[] #[{ accessFlags := 25, nameIndex := 123, descriptorIndex := 124, attributes := #[] }, { accessFlags := 25, nameIndex := 130, descriptorIndex := 124, attributes := #[] }, { accessFlags := 25, nameIndex := 136, descriptorIndex := 124, attributes := #[] }])
  fields := #[{ name := "SIOOBE_FORMATTER", type := (.object "java/util/function/BiFunction"), accessFlags := 25, slot := 0, constantValue := 0 }, { name := "AIOOBE_FORMATTER", type := (.object "java/util/function/BiFunction"), accessFlags := 25, slot := 1, constantValue := 0 }, { name := "IOOBE_FORMATTER", type := (.object "java/util/function/BiFunction"), accessFlags := 25, slot := 2, constantValue := 0 }]
  methods := #[k37m0]
  instanceTypes := #[]
  staticTypes := #[(.object "java/util/function/BiFunction"), (.object "java/util/function/BiFunction"), (.object "java/util/function/BiFunction")]
  resolved := Array.replicate 194 none
  statics := some 4 }

def pool38 : Array CpInfo := pool [(9, u "<init>"), (6, .class_ 18), (1, u "java/lang/Object"), (0, u "()V"), (1, .class_ 23), (1, u "jdk/internal/util/ArraysSupport"), (0, u "LOG2_ARRAY_LONG_INDEX_SCALE"), (0, u "I"), (2, u "U"), (0, u "Ljdk/internal/misc/Unsafe;"), (8, u "BIG_ENDIAN"), (0, u "Z"), (8, u "LOG2_BYTE_BIT_SIZE"), (4, u "LOG2_ARRAY_INT_INDEX_SCALE"), (54, u "JLA"), (0, u "Ljdk/internal/access/JavaLangAccess;"), (11, u "LOG2_ARRAY_BOOLEAN_INDEX_SCALE"), (9, u "LOG2_ARRAY_BYTE_INDEX_SCALE"), (5, u "LOG2_ARRAY_CHAR_INDEX_SCALE"), (5, u "LOG2_ARRAY_SHORT_INDEX_SCALE"), (18, u "LOG2_ARRAY_FLOAT_INDEX_SCALE"), (24, u "LOG2_ARRAY_DOUBLE_INDEX_SCALE"), (89, u "T_BOOLEAN"), (2, u "T_CHAR"), (1, u "T_FLOAT"), (1, u "T_DOUBLE"), (1, u "T_BYTE"), (1, u "T_SHORT"), (1, u "T_INT"), (1, u "T_LONG"), (1, u "SOFT_MAX_ARRAY_LENGTH")] 83

def k38m0 : Method := { name := "<init>", desc := "()V", sig := { parameters := [], returnType := none }, accessFlags := 2, code := none }
/-- jdk/internal/util/ArraysSupport -/
def k38 : Class := { plain "jdk/internal/util/ArraysSupport" (some 0) with
  accessFlags := 33
  interfaces := #[]
  cf := some (fileOf pool38 21 #[] #[{ accessFlags := 2, nameIndex := 9, descriptorIndex := 19, attributes := #[] }] 33 16 #[] #[{ accessFlags := 24, nameIndex := 28, descriptorIndex := 29, attributes := #[] }, { accessFlags := 26, nameIndex := 38, descriptorIndex := 39, attributes := #[] }, { accessFlags := 25, nameIndex := 121, descriptorIndex := 25, attributes := #[] }, { accessFlags := 25, nameIndex := 131, descriptorIndex := 25, attributes := #[] }, { accessFlags := 25, nameIndex := 137, descriptorIndex := 25, attributes := #[] }, { accessFlags := 25, nameIndex := 143, descriptorIndex := 25, attributes := #[] }, { accessFlags := 25, nameIndex := 53, descriptorIndex := 25, attributes := #[] }, { accessFlags := 25, nameIndex := 24, descriptorIndex := 25, attributes := #[] }, { accessFlags := 25, nameIndex := 162, descriptorIndex := 25, attributes := #[] }, { accessFlags := 25, nameIndex := 187, descriptorIndex := 25, attributes := #[] }, { accessFlags := 26, nameIndex := 48, descriptorIndex := 25, attributes := #[] }, { accessFlags := 25, nameIndex := 277, descriptorIndex := 25, attributes := #[] }, { accessFlags := 25, nameIndex := 280, descriptorIndex := 25, attributes := #[] }, { accessFlags := 25, nameIndex := 282, descriptorIndex := 25, attributes := #[] }, { accessFlags := 25, nameIndex := 284, descriptorIndex := 25, attributes := #[] }, { accessFlags := 25, nameIndex := 286, descriptorIndex := 25, attributes := #[] }, { accessFlags := 25, nameIndex := 288, descriptorIndex := 25, attributes := #[] }, { accessFlags := 25, nameIndex := 290, descriptorIndex := 25, attributes := #[] }, { accessFlags := 25, nameIndex := 292, descriptorIndex := 25, attributes := #[] }, { accessFlags := 26, nameIndex := 108, descriptorIndex := 109, attributes := #[] }, { accessFlags := 25, nameIndex := 294, descriptorIndex := 25, attributes := #[] }])
  fields := #[{ name := "U", type := (.object "jdk/internal/misc/Unsafe"), accessFlags := 24, slot := 0, constantValue := 0 }, { name := "BIG_ENDIAN", type := .boolean, accessFlags := 26, slot := 1, constantValue := 0 }, { name := "LOG2_ARRAY_BOOLEAN_INDEX_SCALE", type := .int, accessFlags := 25, slot := 2, constantValue := 0 }, { name := "LOG2_ARRAY_BYTE_INDEX_SCALE", type := .int, accessFlags := 25, slot := 3, constantValue := 0 }, { name := "LOG2_ARRAY_CHAR_INDEX_SCALE", type := .int, accessFlags := 25, slot := 4, constantValue := 0 }, { name := "LOG2_ARRAY_SHORT_INDEX_SCALE", type := .int, accessFlags := 25, slot := 5, constantValue := 0 }, { name := "LOG2_ARRAY_INT_INDEX_SCALE", type := .int, accessFlags := 25, slot := 6, constantValue := 0 }, { name := "LOG2_ARRAY_LONG_INDEX_SCALE", type := .int, accessFlags := 25, slot := 7, constantValue := 0 }, { name := "LOG2_ARRAY_FLOAT_INDEX_SCALE", type := .int, accessFlags := 25, slot := 8, constantValue := 0 }, { name := "LOG2_ARRAY_DOUBLE_INDEX_SCALE", type := .int, accessFlags := 25, slot := 9, constantValue := 0 }, { name := "LOG2_BYTE_BIT_SIZE", type := .int, accessFlags := 26, slot := 10, constantValue := 0 }, { name := "T_BOOLEAN", type := .int, accessFlags := 25, slot := 11, constantValue := 0 }, { name := "T_CHAR", type := .int, accessFlags := 25, slot := 12, constantValue := 0 }, { name := "T_FLOAT", type := .int, accessFlags := 25, slot := 13, constantValue := 0 }, { name := "T_DOUBLE", type := .int, accessFlags := 25, slot := 14, constantValue := 0 }, { name := "T_BYTE", type := .int, accessFlags := 25, slot := 15, constantValue := 0 }, { name := "T_SHORT", type := .int, accessFlags := 25, slot := 16, constantValue := 0 }, { name := "T_INT", type := .int, accessFlags := 25, slot := 17, constantValue := 0 }, { name := "T_LONG", type := .int, accessFlags := 25, slot := 18, constantValue := 0 }, { name := "JLA", type := (.object "jdk/internal/access/JavaLangAccess"), accessFlags := 26, slot := 19, constantValue := 0 }, { name := "SOFT_MAX_ARRAY_LENGTH", type := .int, accessFlags := 25, slot := 20, constantValue := 0 }]
  methods := #[k38m0]
  instanceTypes := #[]
  staticTypes := #[(.object "jdk/internal/misc/Unsafe"), .boolean, .int, .int, .int, .int, .int, .int, .int, .int, .int, .int, .int, .int, .int, .int, .int, .int, .int, (.object "jdk/internal/access/JavaLangAccess"), .int]
  resolved := Array.replicate 378 none
  statics := none }

def pool39 : Array CpInfo := pool [(1, u "java/lang/Class"), (0, .class_ 1), (0, u "java/lang/Object"), (0, .class_ 3)] 3

/-- java/lang/Class -/
def k39 : Class := { plain "java/lang/Class" (some 0) with
  accessFlags := 49
  interfaces := #[]
  cf := some (fileOf pool39 2 #[] #[] 49 4 #[] #[])
  fields := #[]
  methods := #[]
  instanceTypes := #[]
  staticTypes := #[]
  resolved := Array.replicate 8 none
  statics := none }

/-- the primitive byte -/
def k40 : Class := { plain "byte" none with kind := .primitive 'B', accessFlags := 0x411 }
/-- [B -/
def k41 : Class := { plain "[B" (some 0) with kind := .array 40 .byte, interfaces := #[18, 2], accessFlags := 1041 }

/-- the primitive int -/
def k42 : Class := { plain "int" none with kind := .primitive 'I', accessFlags := 0x411 }
/-- [I -/
def k43 : Class := { plain "[I" (some 0) with kind := .array 42 .int, interfaces := #[18, 2], accessFlags := 1041 }

/-- [Ljava/lang/Object; -/
def k44 : Class := { plain "[Ljava/lang/Object;" (some 0) with kind := .array 0 (.object "java/lang/Object"), interfaces := #[18, 2], accessFlags := 1041, mirror := some 8 }

def heap : Heap := #[{ cls := 7, slots := #[.long 0, .int 1, .null, .int 0, .null, .int 0, .int 0], vm := .statics 7 },
  { cls := 14, slots := #[.long 0, .int 0, .null, .null, .ref 16, .null, .null, .null, .int 0, .int 0], vm := .statics 14 },
  { cls := 19, slots := #[.long 0, .int 0, .ref 10, .ref 11], vm := .statics 19 },
  { cls := 26, slots := #[.ref 12, .ref 13, .ref 14, .ref 15, .null], vm := .statics 26 },
  { cls := 37, slots := #[.null, .null, .null], vm := .statics 37 },
  { cls := 39, slots := #[], vm := .mirror 19 },
  { cls := 39, slots := #[], vm := .mirror 22 },
  { cls := 39, slots := #[], vm := .mirror 23 },
  { cls := 39, slots := #[], vm := .mirror 44 },
  { cls := 44, slots := #[], vm := .none },
  { cls := 44, slots := #[], vm := .none },
  { cls := 44, slots := #[], vm := .none },
  { cls := 26, slots := #[.null, .int 0, .int 0], vm := .none },
  { cls := 26, slots := #[.null, .int 1, .int 0], vm := .none },
  { cls := 26, slots := #[.null, .int 2, .int 0], vm := .none },
  { cls := 26, slots := #[.null, .int 3, .int 0], vm := .none },
  { cls := 32, slots := #[.ref 9, .int 0], vm := .none }]
def classes : Array Class := #[k0, k1, k2, k3, k4, k5, k6, k7, k8, k9, k10, k11, k12, k13, k14, k15, k16, k17, k18, k19, k20, k21, k22, k23, k24, k25, k26, k27, k28, k29, k30, k31, k32, k33, k34, k35, k36, k37, k38, k39, k40, k41, k42, k43, k44]
def interned : List (Array UInt16 × Addr) := []
def slotsUsed : Nat := 43
def theMethod : MethodId := ⟨1, 3⟩
def args0 : Array Value := #[.int 1, .int 2, .int 3, .int 3, .int 65]
def aboutOver (below : List Frame) : State where
  vm := { classes := classes, interned := interned.toArray }
  heap := heap
  slotsUsed := slotsUsed
  threads := #[{ frames := .invoking theMethod args0 :: below }]
def below0 : List Frame := [.native { method := ⟨0, 0⟩, args := #[] }]
def about1 : State := aboutOver below0
def p0 : Program := .bare "" "" ""
def e0 : Env := launch0.env 0 0 0
theorem w_frames : about1.frames = Frame.invoking theMethod args0 :: below0 := rfl
set_option maxRecDepth 65536 in
theorem w_args : argsFit about1.vm theMethod args0 = true := by decide +kernel
set_option maxRecDepth 65536 in
theorem w_heap : heapFits about1 = true := by decide +kernel
set_option maxRecDepth 65536 in
theorem w_runnable : about1.curStatus? = some .runnable := by decide +kernel
set_option maxRecDepth 65536 in
theorem w_alone : about1.alone = true := by decide +kernel
set_option maxRecDepth 65536 in
theorem w_named : about1.methodNamed? x = some theMethod := by decide +kernel
set_option maxRecDepth 65536 in
theorem w_hears : about1.hears theMethod below0 = true := by decide +kernel
set_option maxRecDepth 65536 in
theorem w_ripe : about1.ripe theMethod args0 below0 = true := by decide +kernel
theorem w_running : about1.status = .running := rfl
set_option maxRecDepth 65536 in
theorem w_room : about1.hasRoom e0.platform room_1 = true :=
  launch0.hasRoom_least _ room_1 (by decide +kernel) (by decide +kernel) (by decide +kernel) (by decide +kernel) (by decide +kernel) (by decide +kernel)
theorem allAtoms_all (ts : List Jvm.Cond) (a : Array Jvm.Value) (st : Jvm.State) : (allAtoms ts).before a st = ts.all (fun c => c.before a st) := by
  induction ts with
  | nil => rfl
  | cons c t ih =>
    show (Jvm.Cond.and c (allAtoms t)).before a st = _
    rw [Jvm.Cond.before_and, ih, List.all_cons]
def words1 : List Jvm.Cond := Jvm.Cond.code x code maxLocals ret :: tables_1
/-- a 'code' word, met by the world's own term for the bytes: nothing is compared byte by byte -/
theorem code_word {y : MethodName} {bytes : ByteArray} {mx : Nat} {rt : Option FieldType} {a : Array Value} {s : State} {m : MethodId} {meth : Method} {c : Code} (h1 : s.methodNamed? y = some m) (h2 : s.vm.method? m = some meth) (h3 : meth.code = some c) (h4 : c.code = bytes)
    (h5 : (c.maxLocals == mx && c.exceptionTable.isEmpty && decide (c.maxStack ≤ mostOperands) && decide (meth.sig.returnType = rt) && !meth.locks && decide (parseMethodDescriptor y.desc = some meth.sig)) = true) : (Jvm.Cond.code y bytes mx rt).before a s = true := by
  simp only [Bool.and_eq_true, beq_iff_eq, Bool.not_eq_true', decide_eq_true_eq] at h5
  obtain ⟨⟨⟨⟨⟨g1, g2⟩, g3⟩, g4⟩, g5⟩, g6⟩ := h5
  simp [Cond.before, Cond.holds, Cond.value, h1, h2, h3, h4, g1, g2, g3, g4, g5, g6]
def isCode : Jvm.Cond → Bool
  | .code _ _ _ _ => true
  | _ => false
theorem all_split {L : List Jvm.Cond} {P : Jvm.Cond → Bool} (h1 : L.all (fun c => isCode c || P c) = true) (h2 : ∀ c ∈ L.filter isCode, P c = true) : L.all P = true := by
  refine List.all_eq_true.mpr fun c hc => ?_
  have h := List.all_eq_true.mp h1 c hc
  rcases Bool.eq_false_or_eq_true (isCode c) with hi | hi
  · exact h2 c (List.mem_filter.mpr ⟨hc, hi⟩)
  · simpa [hi] using h
set_option maxRecDepth 65536 in
theorem w_c0 : (Jvm.Cond.code x code maxLocals ret).before args0 about1 = true := code_word (m := ⟨1, 3⟩) (meth := k1m3) (c := k1c3) (by decide +kernel) rfl rfl rfl (by decide +kernel)
set_option maxRecDepth 65536 in
theorem w_c1 : (Jvm.Cond.code ({ cls := "java/lang/String", name := "valueOf", desc := "(C)Ljava/lang/String;" } : Jvm.MethodName) jdk_42_method_139_code (1 : Nat) (Option.some (Jvm.ClassFile.FieldType.object "java/lang/String"))).before args0 about1 = true := code_word (m := ⟨7, 1⟩) (meth := k7m1) (c := k7c1) (by decide +kernel) rfl rfl rfl (by decide +kernel)
set_option maxRecDepth 65536 in
theorem w_c2 : (Jvm.Cond.code ({ cls := "java/lang/StringLatin1", name := "canEncode", desc := "(C)Z" } : Jvm.MethodName) jdk_43_method_3_code (1 : Nat) (Option.some Jvm.ClassFile.FieldType.boolean)).before args0 about1 = true := code_word (m := ⟨8, 1⟩) (meth := k8m1) (c := k8c1) (by decide +kernel) rfl rfl rfl (by decide +kernel)
set_option maxRecDepth 65536 in
theorem w_c3 : (Jvm.Cond.code ({ cls := "java/lang/StringLatin1", name := "toBytes", desc := "(C)[B" } : Jvm.MethodName) jdk_43_method_46_code (1 : Nat) (Option.some (Jvm.ClassFile.FieldType.array Jvm.ClassFile.FieldType.byte))).before args0 about1 = true := code_word (m := ⟨8, 2⟩) (meth := k8m2) (c := k8c2) (by decide +kernel) rfl rfl rfl (by decide +kernel)
set_option maxRecDepth 65536 in
theorem w_c4 : (Jvm.Cond.code ({ cls := "java/lang/String", name := "<init>", desc := "([BB)V" } : Jvm.MethodName) jdk_42_method_151_code (3 : Nat) (Option.none : Option Jvm.ClassFile.FieldType)).before args0 about1 = true := code_word (m := ⟨7, 2⟩) (meth := k7m2) (c := k7c2) (by decide +kernel) rfl rfl rfl (by decide +kernel)
set_option maxRecDepth 65536 in
theorem w_c5 : (Jvm.Cond.code ({ cls := "java/lang/Object", name := "<init>", desc := "()V" } : Jvm.MethodName) object_method_1_code (1 : Nat) (Option.none : Option Jvm.ClassFile.FieldType)).before args0 about1 = true := code_word (m := ⟨0, 0⟩) (meth := k0m0) (c := k0c0) (by decide +kernel) rfl rfl rfl (by decide +kernel)
set_option maxRecDepth 65536 in
theorem w_c6 : (Jvm.Cond.code ({ cls := "com/example/temanggung/temanggung/beans/factory/BeanDefinition", name := "<init>", desc := "(Ljava/lang/String;)V" } : Jvm.MethodName) prog_17_method_1_code (2 : Nat) (Option.none : Option Jvm.ClassFile.FieldType)).before args0 about1 = true := code_word (m := ⟨9, 0⟩) (meth := k9m0) (c := k9c0) (by decide +kernel) rfl rfl rfl (by decide +kernel)
set_option maxRecDepth 65536 in
theorem w_c7 : (Jvm.Cond.code ({ cls := "java/util/List", name := "of", desc := "()Ljava/util/List;" } : Jvm.MethodName) jdk_40_method_36_code (0 : Nat) (Option.some (Jvm.ClassFile.FieldType.object "java/util/List"))).before args0 about1 = true := code_word (m := ⟨13, 3⟩) (meth := k13m3) (c := k13c3) (by decide +kernel) rfl rfl rfl (by decide +kernel)
set_option maxRecDepth 65536 in
theorem w_c8 : (Jvm.Cond.code ({ cls := "java/util/ArrayList", name := "<init>", desc := "()V" } : Jvm.MethodName) jdk_38_method_2_code (1 : Nat) (Option.none : Option Jvm.ClassFile.FieldType)).before args0 about1 = true := code_word (m := ⟨19, 0⟩) (meth := k19m0) (c := k19c0) (by decide +kernel) rfl rfl rfl (by decide +kernel)
set_option maxRecDepth 65536 in
theorem w_c9 : (Jvm.Cond.code ({ cls := "java/util/AbstractList", name := "<init>", desc := "()V" } : Jvm.MethodName) jdk_39_method_1_code (1 : Nat) (Option.none : Option Jvm.ClassFile.FieldType)).before args0 about1 = true := code_word (m := ⟨16, 0⟩) (meth := k16m0) (c := k16c0) (by decide +kernel) rfl rfl rfl (by decide +kernel)
set_option maxRecDepth 65536 in
theorem w_c10 : (Jvm.Cond.code ({ cls := "java/util/AbstractCollection", name := "<init>", desc := "()V" } : Jvm.MethodName) jdk_22_method_1_code (1 : Nat) (Option.none : Option Jvm.ClassFile.FieldType)).before args0 about1 = true := code_word (m := ⟨15, 0⟩) (meth := k15m0) (c := k15c0) (by decide +kernel) rfl rfl rfl (by decide +kernel)
set_option maxRecDepth 65536 in
theorem w_c11 : (Jvm.Cond.code ({ cls := "java/util/Collections", name := "unmodifiableList", desc := "(Ljava/util/List;)Ljava/util/List;" } : Jvm.MethodName) jdk_79_method_35_code (1 : Nat) (Option.some (Jvm.ClassFile.FieldType.object "java/util/List"))).before args0 about1 = true := code_word (m := ⟨20, 1⟩) (meth := k20m1) (c := k20c1) (by decide +kernel) rfl rfl rfl (by decide +kernel)
set_option maxRecDepth 65536 in
theorem w_c12 : (Jvm.Cond.code ({ cls := "java/util/Collections$UnmodifiableRandomAccessList", name := "<init>", desc := "(Ljava/util/List;)V" } : Jvm.MethodName) jdk_121_method_1_code (2 : Nat) (Option.none : Option Jvm.ClassFile.FieldType)).before args0 about1 = true := code_word (m := ⟨23, 0⟩) (meth := k23m0) (c := k23c0) (by decide +kernel) rfl rfl rfl (by decide +kernel)
set_option maxRecDepth 65536 in
theorem w_c13 : (Jvm.Cond.code ({ cls := "java/util/Collections$UnmodifiableList", name := "<init>", desc := "(Ljava/util/List;)V" } : Jvm.MethodName) jdk_120_method_1_code (2 : Nat) (Option.none : Option Jvm.ClassFile.FieldType)).before args0 about1 = true := code_word (m := ⟨22, 0⟩) (meth := k22m0) (c := k22c0) (by decide +kernel) rfl rfl rfl (by decide +kernel)
set_option maxRecDepth 65536 in
theorem w_c14 : (Jvm.Cond.code ({ cls := "java/util/Collections$UnmodifiableCollection", name := "<init>", desc := "(Ljava/util/Collection;)V" } : Jvm.MethodName) jdk_119_method_1_code (2 : Nat) (Option.none : Option Jvm.ClassFile.FieldType)).before args0 about1 = true := code_word (m := ⟨21, 0⟩) (meth := k21m0) (c := k21c0) (by decide +kernel) rfl rfl rfl (by decide +kernel)
set_option maxRecDepth 65536 in
theorem w_c15 : (Jvm.Cond.code ({ cls := "java/util/concurrent/CopyOnWriteArrayList", name := "<init>", desc := "()V" } : Jvm.MethodName) jdk_2780_method_3_code (1 : Nat) (Option.none : Option Jvm.ClassFile.FieldType)).before args0 about1 = true := code_word (m := ⟨24, 2⟩) (meth := k24m2) (c := k24c2) (by decide +kernel) rfl rfl rfl (by decide +kernel)
set_option maxRecDepth 65536 in
theorem w_c16 : (Jvm.Cond.code ({ cls := "java/util/concurrent/CopyOnWriteArrayList", name := "setArray", desc := "([Ljava/lang/Object;)V" } : Jvm.MethodName) jdk_2780_method_2_code (2 : Nat) (Option.none : Option Jvm.ClassFile.FieldType)).before args0 about1 = true := code_word (m := ⟨24, 1⟩) (meth := k24m1) (c := k24c1) (by decide +kernel) rfl rfl rfl (by decide +kernel)
set_option maxRecDepth 65536 in
theorem w_c17 : (Jvm.Cond.code ({ cls := "com/example/temanggung/temanggung/beans/factory/BeanDefinition", name := "getAutowire", desc := "()Lcom/example/temanggung/temanggung/beans/factory/Autowire;" } : Jvm.MethodName) prog_17_method_26_code (1 : Nat) (Option.some (Jvm.ClassFile.FieldType.object "com/example/temanggung/temanggung/beans/factory/Autowire"))).before args0 about1 = true := code_word (m := ⟨9, 1⟩) (meth := k9m1) (c := k9c1) (by decide +kernel) rfl rfl rfl (by decide +kernel)
set_option maxRecDepth 65536 in
theorem w_c18 : (Jvm.Cond.code ({ cls := "com/example/temanggung/temanggung/beans/factory/BeanDefinitionGetAutowirePinLaw", name := "mode", desc := "(I)Lcom/example/temanggung/temanggung/beans/factory/Autowire;" } : Jvm.MethodName) method_2_code (2 : Nat) (Option.some (Jvm.ClassFile.FieldType.object "com/example/temanggung/temanggung/beans/factory/Autowire"))).before args0 about1 = true := code_word (m := ⟨1, 1⟩) (meth := k1m1) (c := k1c1) (by decide +kernel) rfl rfl rfl (by decide +kernel)
set_option maxRecDepth 65536 in
theorem w_c19 : (Jvm.Cond.code ({ cls := "com/example/temanggung/temanggung/beans/factory/BeanDefinition", name := "setAutowire", desc := "(Lcom/example/temanggung/temanggung/beans/factory/Autowire;)V" } : Jvm.MethodName) prog_17_method_27_code (2 : Nat) (Option.none : Option Jvm.ClassFile.FieldType)).before args0 about1 = true := code_word (m := ⟨9, 2⟩) (meth := k9m2) (c := k9c2) (by decide +kernel) rfl rfl rfl (by decide +kernel)
set_option maxRecDepth 65536 in
theorem w_c20 : (Jvm.Cond.code ({ cls := "com/example/temanggung/temanggung/beans/factory/BeanDefinition", name := "changed", desc := "()V" } : Jvm.MethodName) prog_17_method_43_code (4 : Nat) (Option.none : Option Jvm.ClassFile.FieldType)).before args0 about1 = true := code_word (m := ⟨9, 4⟩) (meth := k9m4) (c := k9c4) (by decide +kernel) rfl rfl rfl (by decide +kernel)
set_option maxRecDepth 65536 in
theorem w_c21 : (Jvm.Cond.code ({ cls := "java/util/concurrent/CopyOnWriteArrayList", name := "iterator", desc := "()Ljava/util/Iterator;" } : Jvm.MethodName) jdk_2780_method_60_code (1 : Nat) (Option.some (Jvm.ClassFile.FieldType.object "java/util/Iterator"))).before args0 about1 = true := code_word (m := ⟨24, 3⟩) (meth := k24m3) (c := k24c3) (by decide +kernel) rfl rfl rfl (by decide +kernel)
set_option maxRecDepth 65536 in
theorem w_c22 : (Jvm.Cond.code ({ cls := "java/util/concurrent/CopyOnWriteArrayList", name := "getArray", desc := "()[Ljava/lang/Object;" } : Jvm.MethodName) jdk_2780_method_1_code (1 : Nat) (Option.some (Jvm.ClassFile.FieldType.array (Jvm.ClassFile.FieldType.object "java/lang/Object")))).before args0 about1 = true := code_word (m := ⟨24, 0⟩) (meth := k24m0) (c := k24c0) (by decide +kernel) rfl rfl rfl (by decide +kernel)
set_option maxRecDepth 65536 in
theorem w_c23 : (Jvm.Cond.code ({ cls := "java/util/concurrent/CopyOnWriteArrayList$COWIterator", name := "<init>", desc := "([Ljava/lang/Object;I)V" } : Jvm.MethodName) jdk_2781_method_1_code (3 : Nat) (Option.none : Option Jvm.ClassFile.FieldType)).before args0 about1 = true := code_word (m := ⟨29, 0⟩) (meth := k29m0) (c := k29c0) (by decide +kernel) rfl rfl rfl (by decide +kernel)
set_option maxRecDepth 65536 in
theorem w_c24 : (Jvm.Cond.code ({ cls := "java/util/concurrent/CopyOnWriteArrayList$COWIterator", name := "hasNext", desc := "()Z" } : Jvm.MethodName) jdk_2781_method_2_code (1 : Nat) (Option.some Jvm.ClassFile.FieldType.boolean)).before args0 about1 = true := code_word (m := ⟨29, 1⟩) (meth := k29m1) (c := k29c1) (by decide +kernel) rfl rfl rfl (by decide +kernel)
set_option maxRecDepth 65536 in
theorem w_c25 : (Jvm.Cond.code ({ cls := "com/example/temanggung/temanggung/beans/factory/BeanDefinitionGetAutowirePinLaw", name := "orNo", desc := "(Lcom/example/temanggung/temanggung/beans/factory/Autowire;)Lcom/example/temanggung/temanggung/beans/factory/Autowire;" } : Jvm.MethodName) method_3_code (1 : Nat) (Option.some (Jvm.ClassFile.FieldType.object "com/example/temanggung/temanggung/beans/factory/Autowire"))).before args0 about1 = true := code_word (m := ⟨1, 2⟩) (meth := k1m2) (c := k1c2) (by decide +kernel) rfl rfl rfl (by decide +kernel)
set_option maxRecDepth 65536 in
theorem w_c26 : (Jvm.Cond.code ({ cls := "com/example/temanggung/temanggung/beans/factory/BeanDefinition", name := "mergedOnto", desc := "(Lcom/example/temanggung/temanggung/beans/factory/BeanDefinition;)Lcom/example/temanggung/temanggung/beans/factory/BeanDefinition;" } : Jvm.MethodName) prog_17_method_41_code (6 : Nat) (Option.some (Jvm.ClassFile.FieldType.object "com/example/temanggung/temanggung/beans/factory/BeanDefinition"))).before args0 about1 = true := code_word (m := ⟨9, 3⟩) (meth := k9m3) (c := k9c3) (by decide +kernel) rfl rfl rfl (by decide +kernel)
set_option maxRecDepth 65536 in
theorem w_c27 : (Jvm.Cond.code ({ cls := "com/example/temanggung/temanggung/beans/factory/BeanDefinition", name := "either", desc := "(Ljava/lang/Object;Ljava/lang/Object;)Ljava/lang/Object;" } : Jvm.MethodName) prog_17_method_47_code (2 : Nat) (Option.some (Jvm.ClassFile.FieldType.object "java/lang/Object"))).before args0 about1 = true := code_word (m := ⟨9, 5⟩) (meth := k9m5) (c := k9c5) (by decide +kernel) rfl rfl rfl (by decide +kernel)
set_option maxRecDepth 65536 in
theorem w_c28 : (Jvm.Cond.code ({ cls := "java/util/ImmutableCollections$ListN", name := "isEmpty", desc := "()Z" } : Jvm.MethodName) jdk_45_method_2_code (1 : Nat) (Option.some Jvm.ClassFile.FieldType.boolean)).before args0 about1 = true := code_word (m := ⟨32, 0⟩) (meth := k32m0) (c := k32c0) (by decide +kernel) rfl rfl rfl (by decide +kernel)
set_option maxRecDepth 65536 in
theorem w_c29 : (Jvm.Cond.code ({ cls := "java/util/ArrayList", name := "isEmpty", desc := "()Z" } : Jvm.MethodName) jdk_38_method_9_code (1 : Nat) (Option.some Jvm.ClassFile.FieldType.boolean)).before args0 about1 = true := code_word (m := ⟨19, 1⟩) (meth := k19m1) (c := k19c1) (by decide +kernel) rfl rfl rfl (by decide +kernel)
set_option maxRecDepth 65536 in
theorem w_c30 : (Jvm.Cond.code ({ cls := "java/util/ArrayList", name := "addAll", desc := "(Ljava/util/Collection;)Z" } : Jvm.MethodName) jdk_38_method_41_code (6 : Nat) (Option.some Jvm.ClassFile.FieldType.boolean)).before args0 about1 = true := code_word (m := ⟨19, 3⟩) (meth := k19m3) (c := k19c3) (by decide +kernel) rfl rfl rfl (by decide +kernel)
set_option maxRecDepth 65536 in
theorem w_c31 : (Jvm.Cond.code ({ cls := "java/util/ArrayList", name := "toArray", desc := "()[Ljava/lang/Object;" } : Jvm.MethodName) jdk_38_method_16_code (1 : Nat) (Option.some (Jvm.ClassFile.FieldType.array (Jvm.ClassFile.FieldType.object "java/lang/Object")))).before args0 about1 = true := code_word (m := ⟨19, 2⟩) (meth := k19m2) (c := k19c2) (by decide +kernel) rfl rfl rfl (by decide +kernel)
set_option maxRecDepth 65536 in
theorem w_c32 : (Jvm.Cond.code ({ cls := "java/util/Arrays", name := "copyOf", desc := "([Ljava/lang/Object;I)[Ljava/lang/Object;" } : Jvm.MethodName) jdk_65_method_119_code (2 : Nat) (Option.some (Jvm.ClassFile.FieldType.array (Jvm.ClassFile.FieldType.object "java/lang/Object")))).before args0 about1 = true := code_word (m := ⟨33, 1⟩) (meth := k33m1) (c := k33c1) (by decide +kernel) rfl rfl rfl (by decide +kernel)
set_option maxRecDepth 65536 in
theorem w_c33 : (Jvm.Cond.code ({ cls := "java/util/Arrays", name := "copyOf", desc := "([Ljava/lang/Object;ILjava/lang/Class;)[Ljava/lang/Object;" } : Jvm.MethodName) jdk_65_method_120_code (4 : Nat) (Option.some (Jvm.ClassFile.FieldType.array (Jvm.ClassFile.FieldType.object "java/lang/Object")))).before args0 about1 = true := code_word (m := ⟨33, 2⟩) (meth := k33m2) (c := k33c2) (by decide +kernel) rfl rfl rfl (by decide +kernel)
set_option maxRecDepth 65536 in
theorem w_c34 : (Jvm.Cond.code ({ cls := "java/lang/Math", name := "min", desc := "(II)I" } : Jvm.MethodName) jdk_29_method_69_code (2 : Nat) (Option.some Jvm.ClassFile.FieldType.int)).before args0 about1 = true := code_word (m := ⟨34, 1⟩) (meth := k34m1) (c := k34c1) (by decide +kernel) rfl rfl rfl (by decide +kernel)
set_option maxRecDepth 65536 in
theorem w_c35 : (Jvm.Cond.code ({ cls := "java/util/ArrayList", name := "iterator", desc := "()Ljava/util/Iterator;" } : Jvm.MethodName) jdk_38_method_55_code (1 : Nat) (Option.some (Jvm.ClassFile.FieldType.object "java/util/Iterator"))).before args0 about1 = true := code_word (m := ⟨19, 4⟩) (meth := k19m4) (c := k19c4) (by decide +kernel) rfl rfl rfl (by decide +kernel)
set_option maxRecDepth 65536 in
theorem w_c36 : (Jvm.Cond.code ({ cls := "java/util/ArrayList$Itr", name := "<init>", desc := "(Ljava/util/ArrayList;)V" } : Jvm.MethodName) jdk_49_method_1_code (2 : Nat) (Option.none : Option Jvm.ClassFile.FieldType)).before args0 about1 = true := code_word (m := ⟨36, 0⟩) (meth := k36m0) (c := k36c0) (by decide +kernel) rfl rfl rfl (by decide +kernel)
set_option maxRecDepth 65536 in
theorem w_c37 : (Jvm.Cond.code ({ cls := "java/util/ArrayList$Itr", name := "hasNext", desc := "()Z" } : Jvm.MethodName) jdk_49_method_2_code (1 : Nat) (Option.some Jvm.ClassFile.FieldType.boolean)).before args0 about1 = true := code_word (m := ⟨36, 1⟩) (meth := k36m1) (c := k36c1) (by decide +kernel) rfl rfl rfl (by decide +kernel)
def codes1 : List Jvm.Cond := [Jvm.Cond.code x code maxLocals ret, Jvm.Cond.code ({ cls := "java/lang/String", name := "valueOf", desc := "(C)Ljava/lang/String;" } : Jvm.MethodName) jdk_42_method_139_code (1 : Nat) (Option.some (Jvm.ClassFile.FieldType.object "java/lang/String")), Jvm.Cond.code ({ cls := "java/lang/StringLatin1", name := "canEncode", desc := "(C)Z" } : Jvm.MethodName) jdk_43_method_3_code (1 : Nat) (Option.some Jvm.ClassFile.FieldType.boolean), Jvm.Cond.code ({ cls := "java/lang/StringLatin1", name := "toBytes", desc := "(C)[B" } : Jvm.MethodName) jdk_43_method_46_code (1 : Nat) (Option.some (Jvm.ClassFile.FieldType.array Jvm.ClassFile.FieldType.byte)), Jvm.Cond.code ({ cls := "java/lang/String", name := "<init>", desc := "([BB)V" } : Jvm.MethodName) jdk_42_method_151_code (3 : Nat) (Option.none : Option Jvm.ClassFile.FieldType), Jvm.Cond.code ({ cls := "java/lang/Object", name := "<init>", desc := "()V" } : Jvm.MethodName) object_method_1_code (1 : Nat) (Option.none : Option Jvm.ClassFile.FieldType), Jvm.Cond.code ({ cls := "com/example/temanggung/temanggung/beans/factory/BeanDefinition", name := "<init>", desc := "(Ljava/lang/String;)V" } : Jvm.MethodName) prog_17_method_1_code (2 : Nat) (Option.none : Option Jvm.ClassFile.FieldType), Jvm.Cond.code ({ cls := "java/util/List", name := "of", desc := "()Ljava/util/List;" } : Jvm.MethodName) jdk_40_method_36_code (0 : Nat) (Option.some (Jvm.ClassFile.FieldType.object "java/util/List")), Jvm.Cond.code ({ cls := "java/util/ArrayList", name := "<init>", desc := "()V" } : Jvm.MethodName) jdk_38_method_2_code (1 : Nat) (Option.none : Option Jvm.ClassFile.FieldType), Jvm.Cond.code ({ cls := "java/util/AbstractList", name := "<init>", desc := "()V" } : Jvm.MethodName) jdk_39_method_1_code (1 : Nat) (Option.none : Option Jvm.ClassFile.FieldType), Jvm.Cond.code ({ cls := "java/util/AbstractCollection", name := "<init>", desc := "()V" } : Jvm.MethodName) jdk_22_method_1_code (1 : Nat) (Option.none : Option Jvm.ClassFile.FieldType), Jvm.Cond.code ({ cls := "java/util/Collections", name := "unmodifiableList", desc := "(Ljava/util/List;)Ljava/util/List;" } : Jvm.MethodName) jdk_79_method_35_code (1 : Nat) (Option.some (Jvm.ClassFile.FieldType.object "java/util/List")), Jvm.Cond.code ({ cls := "java/util/Collections$UnmodifiableRandomAccessList", name := "<init>", desc := "(Ljava/util/List;)V" } : Jvm.MethodName) jdk_121_method_1_code (2 : Nat) (Option.none : Option Jvm.ClassFile.FieldType), Jvm.Cond.code ({ cls := "java/util/Collections$UnmodifiableList", name := "<init>", desc := "(Ljava/util/List;)V" } : Jvm.MethodName) jdk_120_method_1_code (2 : Nat) (Option.none : Option Jvm.ClassFile.FieldType), Jvm.Cond.code ({ cls := "java/util/Collections$UnmodifiableCollection", name := "<init>", desc := "(Ljava/util/Collection;)V" } : Jvm.MethodName) jdk_119_method_1_code (2 : Nat) (Option.none : Option Jvm.ClassFile.FieldType), Jvm.Cond.code ({ cls := "java/util/concurrent/CopyOnWriteArrayList", name := "<init>", desc := "()V" } : Jvm.MethodName) jdk_2780_method_3_code (1 : Nat) (Option.none : Option Jvm.ClassFile.FieldType), Jvm.Cond.code ({ cls := "java/util/concurrent/CopyOnWriteArrayList", name := "setArray", desc := "([Ljava/lang/Object;)V" } : Jvm.MethodName) jdk_2780_method_2_code (2 : Nat) (Option.none : Option Jvm.ClassFile.FieldType), Jvm.Cond.code ({ cls := "com/example/temanggung/temanggung/beans/factory/BeanDefinition", name := "getAutowire", desc := "()Lcom/example/temanggung/temanggung/beans/factory/Autowire;" } : Jvm.MethodName) prog_17_method_26_code (1 : Nat) (Option.some (Jvm.ClassFile.FieldType.object "com/example/temanggung/temanggung/beans/factory/Autowire")), Jvm.Cond.code ({ cls := "com/example/temanggung/temanggung/beans/factory/BeanDefinitionGetAutowirePinLaw", name := "mode", desc := "(I)Lcom/example/temanggung/temanggung/beans/factory/Autowire;" } : Jvm.MethodName) method_2_code (2 : Nat) (Option.some (Jvm.ClassFile.FieldType.object "com/example/temanggung/temanggung/beans/factory/Autowire")), Jvm.Cond.code ({ cls := "com/example/temanggung/temanggung/beans/factory/BeanDefinition", name := "setAutowire", desc := "(Lcom/example/temanggung/temanggung/beans/factory/Autowire;)V" } : Jvm.MethodName) prog_17_method_27_code (2 : Nat) (Option.none : Option Jvm.ClassFile.FieldType), Jvm.Cond.code ({ cls := "com/example/temanggung/temanggung/beans/factory/BeanDefinition", name := "changed", desc := "()V" } : Jvm.MethodName) prog_17_method_43_code (4 : Nat) (Option.none : Option Jvm.ClassFile.FieldType), Jvm.Cond.code ({ cls := "java/util/concurrent/CopyOnWriteArrayList", name := "iterator", desc := "()Ljava/util/Iterator;" } : Jvm.MethodName) jdk_2780_method_60_code (1 : Nat) (Option.some (Jvm.ClassFile.FieldType.object "java/util/Iterator")), Jvm.Cond.code ({ cls := "java/util/concurrent/CopyOnWriteArrayList", name := "getArray", desc := "()[Ljava/lang/Object;" } : Jvm.MethodName) jdk_2780_method_1_code (1 : Nat) (Option.some (Jvm.ClassFile.FieldType.array (Jvm.ClassFile.FieldType.object "java/lang/Object"))), Jvm.Cond.code ({ cls := "java/util/concurrent/CopyOnWriteArrayList$COWIterator", name := "<init>", desc := "([Ljava/lang/Object;I)V" } : Jvm.MethodName) jdk_2781_method_1_code (3 : Nat) (Option.none : Option Jvm.ClassFile.FieldType), Jvm.Cond.code ({ cls := "java/util/concurrent/CopyOnWriteArrayList$COWIterator", name := "hasNext", desc := "()Z" } : Jvm.MethodName) jdk_2781_method_2_code (1 : Nat) (Option.some Jvm.ClassFile.FieldType.boolean), Jvm.Cond.code ({ cls := "com/example/temanggung/temanggung/beans/factory/BeanDefinitionGetAutowirePinLaw", name := "orNo", desc := "(Lcom/example/temanggung/temanggung/beans/factory/Autowire;)Lcom/example/temanggung/temanggung/beans/factory/Autowire;" } : Jvm.MethodName) method_3_code (1 : Nat) (Option.some (Jvm.ClassFile.FieldType.object "com/example/temanggung/temanggung/beans/factory/Autowire")), Jvm.Cond.code ({ cls := "com/example/temanggung/temanggung/beans/factory/BeanDefinition", name := "mergedOnto", desc := "(Lcom/example/temanggung/temanggung/beans/factory/BeanDefinition;)Lcom/example/temanggung/temanggung/beans/factory/BeanDefinition;" } : Jvm.MethodName) prog_17_method_41_code (6 : Nat) (Option.some (Jvm.ClassFile.FieldType.object "com/example/temanggung/temanggung/beans/factory/BeanDefinition")), Jvm.Cond.code ({ cls := "com/example/temanggung/temanggung/beans/factory/BeanDefinition", name := "either", desc := "(Ljava/lang/Object;Ljava/lang/Object;)Ljava/lang/Object;" } : Jvm.MethodName) prog_17_method_47_code (2 : Nat) (Option.some (Jvm.ClassFile.FieldType.object "java/lang/Object")), Jvm.Cond.code ({ cls := "java/util/ImmutableCollections$ListN", name := "isEmpty", desc := "()Z" } : Jvm.MethodName) jdk_45_method_2_code (1 : Nat) (Option.some Jvm.ClassFile.FieldType.boolean), Jvm.Cond.code ({ cls := "java/util/ArrayList", name := "isEmpty", desc := "()Z" } : Jvm.MethodName) jdk_38_method_9_code (1 : Nat) (Option.some Jvm.ClassFile.FieldType.boolean), Jvm.Cond.code ({ cls := "java/util/ArrayList", name := "addAll", desc := "(Ljava/util/Collection;)Z" } : Jvm.MethodName) jdk_38_method_41_code (6 : Nat) (Option.some Jvm.ClassFile.FieldType.boolean), Jvm.Cond.code ({ cls := "java/util/ArrayList", name := "toArray", desc := "()[Ljava/lang/Object;" } : Jvm.MethodName) jdk_38_method_16_code (1 : Nat) (Option.some (Jvm.ClassFile.FieldType.array (Jvm.ClassFile.FieldType.object "java/lang/Object"))), Jvm.Cond.code ({ cls := "java/util/Arrays", name := "copyOf", desc := "([Ljava/lang/Object;I)[Ljava/lang/Object;" } : Jvm.MethodName) jdk_65_method_119_code (2 : Nat) (Option.some (Jvm.ClassFile.FieldType.array (Jvm.ClassFile.FieldType.object "java/lang/Object"))), Jvm.Cond.code ({ cls := "java/util/Arrays", name := "copyOf", desc := "([Ljava/lang/Object;ILjava/lang/Class;)[Ljava/lang/Object;" } : Jvm.MethodName) jdk_65_method_120_code (4 : Nat) (Option.some (Jvm.ClassFile.FieldType.array (Jvm.ClassFile.FieldType.object "java/lang/Object"))), Jvm.Cond.code ({ cls := "java/lang/Math", name := "min", desc := "(II)I" } : Jvm.MethodName) jdk_29_method_69_code (2 : Nat) (Option.some Jvm.ClassFile.FieldType.int), Jvm.Cond.code ({ cls := "java/util/ArrayList", name := "iterator", desc := "()Ljava/util/Iterator;" } : Jvm.MethodName) jdk_38_method_55_code (1 : Nat) (Option.some (Jvm.ClassFile.FieldType.object "java/util/Iterator")), Jvm.Cond.code ({ cls := "java/util/ArrayList$Itr", name := "<init>", desc := "(Ljava/util/ArrayList;)V" } : Jvm.MethodName) jdk_49_method_1_code (2 : Nat) (Option.none : Option Jvm.ClassFile.FieldType), Jvm.Cond.code ({ cls := "java/util/ArrayList$Itr", name := "hasNext", desc := "()Z" } : Jvm.MethodName) jdk_49_method_2_code (1 : Nat) (Option.some Jvm.ClassFile.FieldType.boolean)]
set_option maxRecDepth 65536 in
theorem codes_eq : words1.filter isCode = codes1 := rfl
theorem w_codes : ∀ c ∈ words1.filter isCode, c.before args0 about1 = true := by
  rw [codes_eq]
  intro c hc
  simp only [codes1, List.mem_cons, List.not_mem_nil, or_false] at hc
  rcases hc with rfl | rfl | rfl | rfl | rfl | rfl | rfl | rfl | rfl | rfl | rfl | rfl | rfl | rfl | rfl | rfl | rfl | rfl | rfl | rfl | rfl | rfl | rfl | rfl | rfl | rfl | rfl | rfl | rfl | rfl | rfl | rfl | rfl | rfl | rfl | rfl | rfl | rfl
  · exact w_c0
  · exact w_c1
  · exact w_c2
  · exact w_c3
  · exact w_c4
  · exact w_c5
  · exact w_c6
  · exact w_c7
  · exact w_c8
  · exact w_c9
  · exact w_c10
  · exact w_c11
  · exact w_c12
  · exact w_c13
  · exact w_c14
  · exact w_c15
  · exact w_c16
  · exact w_c17
  · exact w_c18
  · exact w_c19
  · exact w_c20
  · exact w_c21
  · exact w_c22
  · exact w_c23
  · exact w_c24
  · exact w_c25
  · exact w_c26
  · exact w_c27
  · exact w_c28
  · exact w_c29
  · exact w_c30
  · exact w_c31
  · exact w_c32
  · exact w_c33
  · exact w_c34
  · exact w_c35
  · exact w_c36
  · exact w_c37
set_option maxRecDepth 65536 in
theorem w_t1 : (words1.take 24).all (fun c => isCode c || c.before args0 about1) = true := by decide +kernel
set_option maxRecDepth 65536 in
theorem w_t2 : ((words1.drop 24).take 24).all (fun c => isCode c || c.before args0 about1) = true := by decide +kernel
set_option maxRecDepth 65536 in
theorem w_t3 : (((words1.drop 24).drop 24).take 24).all (fun c => isCode c || c.before args0 about1) = true := by decide +kernel
set_option maxRecDepth 65536 in
theorem w_t4 : ((((words1.drop 24).drop 24).drop 24).take 24).all (fun c => isCode c || c.before args0 about1) = true := by decide +kernel
set_option maxRecDepth 65536 in
theorem w_t5 : (((((words1.drop 24).drop 24).drop 24).drop 24).take 24).all (fun c => isCode c || c.before args0 about1) = true := by decide +kernel
set_option maxRecDepth 65536 in
theorem w_t6 : ((((((words1.drop 24).drop 24).drop 24).drop 24).drop 24).take 24).all (fun c => isCode c || c.before args0 about1) = true := by decide +kernel
set_option maxRecDepth 65536 in
theorem w_t7 : (((((((words1.drop 24).drop 24).drop 24).drop 24).drop 24).drop 24).take 24).all (fun c => isCode c || c.before args0 about1) = true := by decide +kernel
set_option maxRecDepth 65536 in
theorem w_t8 : ((((((((words1.drop 24).drop 24).drop 24).drop 24).drop 24).drop 24).drop 24).take 24).all (fun c => isCode c || c.before args0 about1) = true := by decide +kernel
set_option maxRecDepth 65536 in
theorem w_t9 : (((((((((words1.drop 24).drop 24).drop 24).drop 24).drop 24).drop 24).drop 24).drop 24).take 24).all (fun c => isCode c || c.before args0 about1) = true := by decide +kernel
set_option maxRecDepth 65536 in
theorem w_t10 : ((((((((((words1.drop 24).drop 24).drop 24).drop 24).drop 24).drop 24).drop 24).drop 24).drop 24).take 24).all (fun c => isCode c || c.before args0 about1) = true := by decide +kernel
set_option maxRecDepth 65536 in
theorem w_t11 : (((((((((((words1.drop 24).drop 24).drop 24).drop 24).drop 24).drop 24).drop 24).drop 24).drop 24).drop 24).take 24).all (fun c => isCode c || c.before args0 about1) = true := by decide +kernel
set_option maxRecDepth 65536 in
theorem w_t12 : ((((((((((((words1.drop 24).drop 24).drop 24).drop 24).drop 24).drop 24).drop 24).drop 24).drop 24).drop 24).drop 24).take 24).all (fun c => isCode c || c.before args0 about1) = true := by decide +kernel
set_option maxRecDepth 65536 in
theorem w_t13 : (((((((((((((words1.drop 24).drop 24).drop 24).drop 24).drop 24).drop 24).drop 24).drop 24).drop 24).drop 24).drop 24).drop 24).take 24).all (fun c => isCode c || c.before args0 about1) = true := by decide +kernel
set_option maxRecDepth 65536 in
theorem w_t14 : (((((((((((((words1.drop 24).drop 24).drop 24).drop 24).drop 24).drop 24).drop 24).drop 24).drop 24).drop 24).drop 24).drop 24).drop 24).all (fun c => isCode c || c.before args0 about1) = true := by decide +kernel
theorem w_tables : (allAtoms (Jvm.Cond.code x code maxLocals ret :: tables_1)).before args0 about1 = true := by
  rw [allAtoms_all]
  show words1.all (fun c => c.before args0 about1) = true
  refine all_split ?_ w_codes
  rw [← List.take_append_drop 24 words1, List.all_append, w_t1, ← List.take_append_drop 24 (words1.drop 24), List.all_append, w_t2, ← List.take_append_drop 24 ((words1.drop 24).drop 24), List.all_append, w_t3, ← List.take_append_drop 24 (((words1.drop 24).drop 24).drop 24), List.all_append, w_t4, ← List.take_append_drop 24 ((((words1.drop 24).drop 24).drop 24).drop 24), List.all_append, w_t5, ← List.take_append_drop 24 (((((words1.drop 24).drop 24).drop 24).drop 24).drop 24), List.all_append, w_t6, ← List.take_append_drop 24 ((((((words1.drop 24).drop 24).drop 24).drop 24).drop 24).drop 24), List.all_append, w_t7, ← List.take_append_drop 24 (((((((words1.drop 24).drop 24).drop 24).drop 24).drop 24).drop 24).drop 24), List.all_append, w_t8, ← List.take_append_drop 24 ((((((((words1.drop 24).drop 24).drop 24).drop 24).drop 24).drop 24).drop 24).drop 24), List.all_append, w_t9, ← List.take_append_drop 24 (((((((((words1.drop 24).drop 24).drop 24).drop 24).drop 24).drop 24).drop 24).drop 24).drop 24), List.all_append, w_t10, ← List.take_append_drop 24 ((((((((((words1.drop 24).drop 24).drop 24).drop 24).drop 24).drop 24).drop 24).drop 24).drop 24).drop 24), List.all_append, w_t11, ← List.take_append_drop 24 (((((((((((words1.drop 24).drop 24).drop 24).drop 24).drop 24).drop 24).drop 24).drop 24).drop 24).drop 24).drop 24), List.all_append, w_t12, ← List.take_append_drop 24 ((((((((((((words1.drop 24).drop 24).drop 24).drop 24).drop 24).drop 24).drop 24).drop 24).drop 24).drop 24).drop 24).drop 24), List.all_append, w_t13, w_t14]
  rfl
set_option maxRecDepth 65536 in
theorem w_rest : rest_1_c.before args0 about1 = true := by decide +kernel
set_option maxRecDepth 65536 in
theorem w_case : (Jvm.Cond.and given_1 narrow_1).before args0 about1 = true := by decide +kernel
theorem w_applies : (headSpec (Jvm.Cond.code x code maxLocals ret :: tables_1) room_1).applies x e0.platform about1 = true :=
  (Spec.applies_iff w_frames).mpr ⟨w_running, w_runnable, w_alone, w_named, w_hears, w_ripe, w_room, w_tables⟩
theorem atStart : AtStart classFile x code maxLocals ret World_1 tables_1 room_1 Calls_1 rest_1 Pre_1 launch0 p0 e0 about1 theMethod args0 below0 :=
  ⟨lists_1, trivial, launch0.admits_env _ _ _, launch0.least_env, fairChoices_fair.cas, fairChoices_fair.clock, w_frames, w_args, w_heap, w_applies, ⟨⟨19, k19, 5, by decide +kernel, rfl, rfl, _, rfl, rfl⟩, ⟨⟨22, k22, 6, by decide +kernel, rfl, rfl, _, rfl, rfl⟩, ⟨⟨23, k23, 7, by decide +kernel, rfl, rfl, _, rfl, rfl⟩, ⟨⟨44, k44, 8, by decide +kernel, rfl, rfl, _, rfl, rfl⟩, trivial⟩⟩⟩⟩, w_rest, w_case⟩
end start1
theorem witness_1 : WitnessClaimed_1 := ⟨start1.p0, start1.e0, start1.about1, start1.theMethod, start1.args0, start1.below0, start1.atStart⟩
end Jvm.Pilot.@@N@@
