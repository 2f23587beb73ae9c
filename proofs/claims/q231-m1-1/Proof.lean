import JvmDerived
import JvmDerived.Pilot.@@N@@Statement
import JvmDerived.Pilot.@@N@@Code
set_option linter.unusedVariables false
set_option linter.unusedSimpArgs false
namespace Jvm.Pilot.@@N@@
open Jvm Jvm.ClassFile Sem Op Lib Jvm.Free Jvm.Stand Jvm.LawKit Jvm.RoadKit Bundle Jvm.Pilot.@@N@@.Jvm.D
abbrev own_H (a0 : Array Value) (Z : State) : Prop := ∀ d ∈ tables_1, d.before a0 Z = true
theorem own_w {a0 : Array Value} {Z : State} (hw : ∀ d ∈ tables_1, d.before a0 Z = true) (i : Nat) {d : Jvm.Cond} (h : tables_1[i]? = some d) : d.before a0 Z = true := hw _ (List.mem_of_getElem? h)
section Own
variable {p : Program} {l : Launch} {e : Env} {R : Room} {s : State} {m : MethodId} {args : Array Value} {below : List Frame} {meth : Method} {c : Code} {T : State} {locs : List Loc} {cells slots : Nat} {Z : State} {a0 : Array Value} {h : Heap}
def own_Go (p : Program) (e : Env) (below : List Frame) (P : Outcome → State → Prop) (U : State) : Prop := ∃ s₂ o, Steps p.tables e below U s₂ ∧ s₂.status = .running ∧ Ended s₂ below o ∧ P o s₂
theorem own_st {P : Outcome → State → Prop} {U V : State} (k : ∀ t, Steps p.tables e below U t → Steps p.tables e below V t) (h : own_Go p e below P U) : own_Go p e below P V := by
  obtain ⟨a, b, c, d⟩ := h; exact ⟨a, b, k _ c, d⟩
def own_P (s : State) (Q : Option Value → Heap → List Loc → Prop) (rc rs : Nat) (o : Outcome) (U : State) : Prop := ∃ v L, o = .returned v ∧ Q v U.heap L ∧ FrameEnd s o U L rc rs
theorem own_ret (X : Stand p l e R s m args below meth c T locs cells slots) {Q : Option Value → Heap → List Loc → Prop} {rc rs : Nat} {g : JFrame} {v : Option Value} (hlk : meth.locks = false) (hv : meth.sig.returnType = none → v = none) (hq : Q v T.heap locs) (hc : cells ≤ rc) (hl : slots ≤ rs)
    (k : ∀ fs, (∀ (f : JFrame) (acts : List Action), f.method = m → f.locked = none → f.entered = [] → (doReturn e (T.setTop f) acts v).1 = T.setFrames fs) → Steps p.tables e below (T.setTop g) (T.setFrames fs)) : own_Go p e below (own_P s Q rc rs) (T.setTop g) := by
  obtain ⟨fs, hr, hrun, hended, hW, hsame⟩ := X.leave (v := v) hv hlk
  exact ⟨_, _, k fs hr, hrun, hended, _, _, rfl, hq, ⟨_, rfl⟩, hW, hsame.mono hc hl⟩
theorem own_retV (X : Stand p l e R s m args below meth c T locs cells slots) (hx : p.tables.exec = Jvm.exec) {Q : Option Value → Heap → List Loc → Prop} {rc rs pc : Nat} {Ls : Array Slot} (hlk : meth.locks = false) (hret : meth.sig.returnType = none) (hd : decode c.code pc = .ok (.return_, 1)) (hc : cells ≤ rc) (hl : slots ≤ rs) (hq : Q none T.heap locs) : own_Go p e below (own_P s Q rc rs) (T.setTop (mkF m pc Ls [])) :=
  own_ret X hlk (fun _ => rfl) hq hc hl fun _ hr => X.returnOut hx hret hd hr
theorem own_retX (X : Stand p l e R s m args below meth c T locs cells slots) (hx : p.tables.exec = Jvm.exec) {Q : Option Value → Heap → List Loc → Prop} {rc rs pc : Nat} {Ls : Array Slot} {w : Value} {t : FieldType} {i : Instr} {rest : List Value} (hlk : meth.locks = false) (hret : meth.sig.returnType = some t) (hn : narrow t w = w)
    (hi : (i = .ireturn ∧ (t = .int ∨ t = .boolean ∨ t = .byte ∨ t = .char ∨ t = .short) ∧ ∃ z, w = .int z) ∨ (i = .lreturn ∧ t = .long ∧ ∃ z, w = .long z) ∨ (i = .dreturn ∧ t = .double ∧ ∃ z, w = .double z) ∨ (i = .freturn ∧ t = .float ∧ ∃ z, w = .float z) ∨ (i = .areturn ∧ t.isReference = true ∧ w.isRef = true))
    (hd : decode c.code pc = .ok (i, 1)) (hc : cells ≤ rc) (hl : slots ≤ rs) (hq : Q (some w) T.heap locs) : own_Go p e below (own_P s Q rc rs) (T.setTop (mkF m pc Ls (w :: rest))) :=
  own_ret X hlk (fun q => by rw [hret] at q; cases q) hq hc hl fun _ hr => retOut X hx hret hn hi hd hr
theorem own_body {y : MethodName} {bytes : ByteArray} {maxL : Nat} {ret : Option FieldType} {rm : Room} {ws : List Cond} {as' : Array Value} {Q : Option Value → Heap → List Loc → Prop} (hn : plainFor y = true)
    (b : ∀ (p : Program) (e : Env) (s : State) (m : MethodId) (below : List Frame) (meth : Method) (c : Code) (s₁ : State), p.tables.exec = Jvm.exec → c.code = bytes → c.maxLocals = maxL → s.vm.findClass y.cls = some m.cls → meth.name = y.name → meth.sig.returnType = ret → meth.locks = false → Z.Warmed39 s.vm → s₁.heap = h → Stand p l e rm s m as' below meth c s₁ [] 0 0 →
      own_Go p e below (own_P s Q rm.cells rm.slots) (s₁.setTop (entryFrame m as' maxL))) :
    MetFree l y (head1 (Cond.code y bytes maxL ret :: ws) rm) (fun a U => a = as' ∧ Z.Warmed39 U.vm ∧ U.heap = h) (fun _ _ _ _ _ => True) (fun _ U o U' => ∃ v L, o = .returned v ∧ Q v U'.heap L ∧ FrameEnd U o U' L rm.cells rm.slots) := by
  refine MetFree.of_bodySF hn hisR ?_
  intro p e s m args below meth c s₁ Bd hml0 hP hK
  obtain ⟨rfl, hZ, hh⟩ := hP
  exact b p e s m below meth c s₁ Bd.exec Bd.bytes hml0 (findClass_of_methodNamed Bd.named) (name_of_methodNamed Bd.named Bd.method).1 Bd.returns Bd.notSynchronized hZ (by rw [← hh, Bd.state]; rfl) (Stand.of_body Bd)
abbrev own_Met (l : Launch) (y : MethodName) (bytes : ByteArray) (maxL : Nat) (ret : Option FieldType) (ws : List Cond) (rm : Room) (Z : State) (h : Heap) (as' : Array Value) (Q : Option Value → Heap → List Loc → Prop) : Prop :=
  MetFree l y (head1 (Cond.code y bytes maxL ret :: ws) rm) (fun a U => a = as' ∧ Z.Warmed39 U.vm ∧ U.heap = h) (fun _ _ _ _ _ => True) (fun _ U o U' => ∃ v L, o = .returned v ∧ Q v U'.heap L ∧ FrameEnd U o U' L rm.cells rm.slots)
abbrev own_Came (p : Program) (l : Launch) (e : Env) (R : Room) (s : State) (m : MethodId) (args : Array Value) (below : List Frame) (meth : Method) (c : Code) (T : State) (locs : List Loc) (cells slots : Nat) (g : JFrame) (len : Nat) (rest : List Value) (Q : Option Value → Heap → List Loc → Prop) : Prop :=
  ∃ (T' : State) (v : Option Value) (L : List Loc), Stand p l e R s m args below meth c T' (locs ++ L) cells slots ∧ Q v T'.heap L ∧ ∀ t, Steps p.tables e below (T'.setTop { g with pc := g.pc + len, stack := v.toList ++ rest }) t → Steps p.tables e below (T.setTop g) t
theorem own_callS (X : Stand p l e R s m args below meth c T locs cells slots) (hx : p.tables.exec = Jvm.exec) (hZ : Z.Warmed39 s.vm) {own : String} {index : Nat} {y : MethodName} {bytes : ByteArray} {maxL : Nat} {ret : Option FieldType} {rm : Room} {as' : Array Value} {Q : Option Value → Heap → List Loc → Prop}
    (hown : s.vm.findClass own = some m.cls) (w1 : (Cond.methodLink own index y).before a0 Z = true) (w2 : (Cond.static y).before a0 Z = true) (w3 : (Cond.initialized y.cls).before a0 Z = true) (w4 : (Cond.code y bytes maxL ret).before a0 Z = true)
    (hy : y.cls ≠ "java/lang/invoke/MethodHandle" ∧ y.cls ≠ "java/lang/invoke/VarHandle") (hM : own_Met l y bytes maxL ret [] rm Z h as' Q) (eT : T.heap = h) {ps : List FieldType} {r : Option FieldType} (hd : parseMethodDescriptor y.desc = some ⟨ps, r⟩) {argsL rest : List Value} (hl : argsL.length = ps.length) (ha : argsL.toArray = as')
    {g : JFrame} (hg : g.method = m) (hsize : g.locals.size = c.maxLocals) (hstack : g.stack = argsL.reverse ++ rest) (hdg : decode c.code g.pc = .ok (.invokestatic index, 3)) {W : Nat} (hW : 2 * g.monitorRoom + (rest.map fun v => v.category).sum = W) (h1 : rm.frames + 1 ≤ R.frames) (h2 : W + (maxL + 11) + rm.locals ≤ R.locals) (h3 : cells + rm.cells ≤ R.cells) (h4 : slots + rm.slots ≤ R.slots) :
    own_Came p l e R s m args below meth c T locs (cells + rm.cells) (slots + rm.slots) g 3 rest Q := by
  obtain ⟨v, _, ⟨T', L', k', n'⟩, -, X', ⟨Lc, hQ, l1, y1, z1⟩, st⟩ := Jvm.LawKit.callS X hx (y := y) hown (mvT hZ w1) (mvT hZ w2) (mvT hZ w3) (mvT hZ w4) hy (backOf (W := W) hM hZ w4 w3 h1 h2) (g := g) hg hsize (argsL := argsL) (rest := rest) (lenOf hd hl) hstack (Nat.le_of_eq hW) hdg (fun _ _ => ⟨ha, eT, h3, h4⟩)
  dsimp only [Pt.U, Pt.locs, Pt.cells, Pt.slots] at X' l1 y1 z1 st hQ
  subst l1 y1 z1
  exact ⟨T', v, Lc, X', hQ, st⟩
theorem own_callN (X : Stand p l e R s m args below meth c T locs cells slots) (hx : p.tables.exec = Jvm.exec) (hZ : Z.Warmed39 s.vm) {own : String} {index : Nat} {y : MethodName} {bytes : ByteArray} {maxL : Nat} {rm : Room} {as' : Array Value} {Q : Option Value → Heap → List Loc → Prop} (hy1 : y.name = "<init>")
    (hown : s.vm.findClass own = some m.cls) (w1 : (Cond.methodLink own index y).before a0 Z = true) (w2 : (Cond.instanceMethod y).before a0 Z = true) (w3 : (Cond.initialized y.cls).before a0 Z = true) (w4 : (Cond.code y bytes maxL none).before a0 Z = true)
    (hy : y.cls ≠ "java/lang/invoke/MethodHandle" ∧ y.cls ≠ "java/lang/invoke/VarHandle") (hM : own_Met l y bytes maxL none [] rm Z h as' Q) (eT : T.heap = h) {ps : List FieldType} {r : Option FieldType} (hd : parseMethodDescriptor y.desc = some ⟨ps, r⟩) {a : Addr} {argsL rest : List Value} (hl : argsL.length = ps.length) (ha : (.ref a :: argsL).toArray = as')
    {g : JFrame} (hg : g.method = m) (hsize : g.locals.size = c.maxLocals) (hstack : g.stack = argsL.reverse ++ .ref a :: rest) (hdg : decode c.code g.pc = .ok (.invokespecial index, 3)) {W : Nat} (hW : 2 * g.monitorRoom + (rest.map fun v => v.category).sum = W) (h1 : rm.frames + 1 ≤ R.frames) (h2 : W + (maxL + 11) + rm.locals ≤ R.locals) (h3 : cells + rm.cells ≤ R.cells) (h4 : slots + rm.slots ≤ R.slots) :
    own_Came p l e R s m args below meth c T locs (cells + rm.cells) (slots + rm.slots) g 3 rest Q := by
  obtain ⟨v, _, ⟨T', L', k', n'⟩, -, X', ⟨Lc, hQ, l1, y1, z1⟩, st⟩ := X.specialBack hx (y := y) hy1 hown (mvT hZ w1) (mvT hZ w2) (mvT hZ w4) hy (backOf (W := W) hM hZ w4 w3 h1 h2) (g := g) hg hsize (Steps.refl _) (a := a) (argsL := argsL) (rest := rest) (lenOf hd hl) hstack (Nat.le_of_eq hW) hdg (fun _ _ => ⟨ha, eT, h3, h4⟩)
  dsimp only [Pt.U, Pt.locs, Pt.cells, Pt.slots] at X' l1 y1 z1 st hQ
  subst l1 y1 z1
  exact ⟨T', v, Lc, X', hQ, fun _ k => st.trans k⟩
theorem own_callV (X : Stand p l e R s m args below meth c T locs cells slots) (hx : p.tables.exec = Jvm.exec) (hZ : Z.Warmed39 s.vm) {own C : String} {index : Nat} {y z : MethodName} {bytes : ByteArray} {maxL : Nat} {ret : Option FieldType} {rm : Room} {as' : Array Value} {Q : Option Value → Heap → List Loc → Prop}
    (hown : s.vm.findClass own = some m.cls) (w1 : (Cond.methodLink own index y).before a0 Z = true) (w2 : (Cond.declares y).before a0 Z = true) (hnf : NotFace s y) (w5 : (Cond.selects C y z).before a0 Z = true) (w6 : (Cond.instanceMethod z).before a0 Z = true) (w3 : (Cond.initialized z.cls).before a0 Z = true) (w4 : (Cond.code z bytes maxL ret).before a0 Z = true)
    (hy : y.cls ≠ "java/lang/invoke/MethodHandle" ∧ y.cls ≠ "java/lang/invoke/VarHandle") (hM : own_Met l z bytes maxL ret [] rm Z h as' Q) (eT : T.heap = h) {a : Addr} (E : Exa Z h a C) {ps : List FieldType} {r : Option FieldType} (hd : parseMethodDescriptor y.desc = some ⟨ps, r⟩) {argsL rest : List Value} (hl : argsL.length = ps.length) (ha : (.ref a :: argsL).toArray = as')
    {g : JFrame} (hg : g.method = m) (hsize : g.locals.size = c.maxLocals) (hstack : g.stack = argsL.reverse ++ .ref a :: rest) (hdg : decode c.code g.pc = .ok (.invokevirtual index, 3)) {W : Nat} (hW : 2 * g.monitorRoom + (rest.map fun v => v.category).sum = W) (h1 : rm.frames + 1 ≤ R.frames) (h2 : W + (maxL + 11) + rm.locals ≤ R.locals) (h3 : cells + rm.cells ≤ R.cells) (h4 : slots + rm.slots ≤ R.slots) :
    own_Came p l e R s m args below meth c T locs (cells + rm.cells) (slots + rm.slots) g 3 rest Q := by
  obtain ⟨cq, kq, qa, qb, qc⟩ := isOf hZ eT E
  obtain ⟨v, _, ⟨T', L', k', n'⟩, -, X', ⟨Lc, hQ, l1, y1, z1⟩, st⟩ := X.virtualBack hx (y := y) (z := z) hown (mvT hZ w1) (mvT hZ w2) hnf (mvT hZ w5) (mvT hZ w6) hy (backOf (W := W) hM hZ w4 w3 h1 h2) qa qc (g := g) hg hsize (Steps.refl _) (argsL := argsL) (rest := rest) (lenOf hd hl) hstack (Nat.le_of_eq hW) hdg (fun _ _ => ⟨ha, eT, h3, h4⟩)
  dsimp only [Pt.U, Pt.locs, Pt.cells, Pt.slots] at X' l1 y1 z1 st hQ
  subst l1 y1 z1
  exact ⟨T', v, Lc, X', hQ, fun _ k => st.trans k⟩
theorem own_callU (X : Stand p l e R s m args below meth c T locs cells slots) (hx : p.tables.exec = Jvm.exec) (hZ : Z.Warmed39 s.vm) {own C owner : String} {index : Nat} {y z : MethodName} {bytes : ByteArray} {maxL : Nat} {ret : Option FieldType} {rm : Room} {as' : Array Value} {Q : Option Value → Heap → List Loc → Prop}
    (hown : s.vm.findClass own = some m.cls) (w1 : (Cond.methodLink own index y).before a0 Z = true) (w7 : (Cond.sameMethod y.cls owner y.name y.desc).before a0 Z = true) (w2 : (Cond.declares ⟨owner, y.name, y.desc⟩).before a0 Z = true) (w5 : (Cond.selects C y z).before a0 Z = true) (w6 : (Cond.instanceMethod z).before a0 Z = true) (w3 : (Cond.initialized z.cls).before a0 Z = true) (w4 : (Cond.code z bytes maxL ret).before a0 Z = true)
    (hy : owner ≠ "java/lang/invoke/MethodHandle" ∧ owner ≠ "java/lang/invoke/VarHandle") (hM : own_Met l z bytes maxL ret [] rm Z h as' Q) (eT : T.heap = h) {a : Addr} (E : Exa Z h a C) {ps : List FieldType} {r : Option FieldType} (hd : parseMethodDescriptor y.desc = some ⟨ps, r⟩) {argsL rest : List Value} (hl : argsL.length = ps.length) (ha : (.ref a :: argsL).toArray = as')
    {g : JFrame} (hg : g.method = m) (hsize : g.locals.size = c.maxLocals) (hstack : g.stack = argsL.reverse ++ .ref a :: rest) (hdg : decode c.code g.pc = .ok (.invokevirtual index, 3)) {W : Nat} (hW : 2 * g.monitorRoom + (rest.map fun v => v.category).sum = W) (h1 : rm.frames + 1 ≤ R.frames) (h2 : W + (maxL + 11) + rm.locals ≤ R.locals) (h3 : cells + rm.cells ≤ R.cells) (h4 : slots + rm.slots ≤ R.slots) :
    own_Came p l e R s m args below meth c T locs (cells + rm.cells) (slots + rm.slots) g 3 rest Q := by
  obtain ⟨cq, kq, qa, qb, qc⟩ := isOf hZ eT E
  obtain ⟨v, _, ⟨T', L', k', n'⟩, -, X', ⟨Lc, hQ, l1, y1, z1⟩, st⟩ := X.virtualBackUp hx (x := y) (y := z) hown (mvT hZ w1) (mvT hZ w7) (mvT hZ w2) hy (mvT hZ w5) (mvT hZ w6) (backOf (W := W) hM hZ w4 w3 h1 h2) qa qc (g := g) hg hsize (Steps.refl _) (argsL := argsL) (rest := rest) (lenOf hd hl) hstack (Nat.le_of_eq hW) hdg (fun _ _ => ⟨ha, eT, h3, h4⟩)
  dsimp only [Pt.U, Pt.locs, Pt.cells, Pt.slots] at X' l1 y1 z1 st hQ
  subst l1 y1 z1
  exact ⟨T', v, Lc, X', hQ, fun _ k => st.trans k⟩
theorem own_callI (X : Stand p l e R s m args below meth c T locs cells slots) (hx : p.tables.exec = Jvm.exec) (hZ : Z.Warmed39 s.vm) {own C : String} {index count : Nat} {y z : MethodName} {bytes : ByteArray} {maxL : Nat} {ret : Option FieldType} {rm : Room} {as' : Array Value} {Q : Option Value → Heap → List Loc → Prop}
    (hown : s.vm.findClass own = some m.cls) (w1 : (Cond.methodLink own index y).before a0 Z = true) (w2 : (Cond.declares y).before a0 Z = true) (w7 : (Cond.interfaceMethod y.cls y.cls y.name y.desc).before args s = true) (w5 : (Cond.selects C y z).before a0 Z = true) (w6 : (Cond.instanceMethod z).before a0 Z = true) (w8 : (Cond.publicMethod z).before a0 Z = true) (w9 : (Cond.unhidden C y.name y.desc).before a0 Z = true) (w10 : (Cond.castable C y.cls).before a0 Z = true) (w3 : (Cond.initialized z.cls).before a0 Z = true) (w4 : (Cond.code z bytes maxL ret).before a0 Z = true)
    (hy : y.cls ≠ "java/lang/invoke/MethodHandle" ∧ y.cls ≠ "java/lang/invoke/VarHandle") (hM : own_Met l z bytes maxL ret [] rm Z h as' Q) (eT : T.heap = h) {a : Addr} (E : Exa Z h a C) {ps : List FieldType} {r : Option FieldType} (hd : parseMethodDescriptor y.desc = some ⟨ps, r⟩) {argsL rest : List Value} (hl : argsL.length = ps.length) (ha : (.ref a :: argsL).toArray = as')
    {g : JFrame} (hg : g.method = m) (hsize : g.locals.size = c.maxLocals) (hstack : g.stack = argsL.reverse ++ .ref a :: rest) (hdg : decode c.code g.pc = .ok (.invokeinterface index count, 5)) {W : Nat} (hW : 2 * g.monitorRoom + (rest.map fun v => v.category).sum = W) (h1 : rm.frames + 1 ≤ R.frames) (h2 : W + (maxL + 11) + rm.locals ≤ R.locals) (h3 : cells + rm.cells ≤ R.cells) (h4 : slots + rm.slots ≤ R.slots) :
    own_Came p l e R s m args below meth c T locs (cells + rm.cells) (slots + rm.slots) g 5 rest Q := by
  obtain ⟨cq, kq, qa, qb, qc⟩ := isOf hZ eT E
  obtain ⟨v, _, ⟨T', L', k', n'⟩, -, X', ⟨Lc, hQ, l1, y1, z1⟩, st⟩ := X.interfaceBack hx (xi := y) (y := z) hown (mvT hZ w1) (mvT hZ w2) w7 (mvT hZ w5) (mvT hZ w6) (mvT hZ w8) (mvT hZ w9) (mvT hZ w10) hy (backOf (W := W) hM hZ w4 w3 h1 h2) qa qb qc (g := g) hg hsize (Steps.refl _) (argsL := argsL) (rest := rest) (lenOf hd hl) hstack (Nat.le_of_eq hW) hdg (fun _ _ => ⟨ha, eT, h3, h4⟩)
  dsimp only [Pt.U, Pt.locs, Pt.cells, Pt.slots] at X' l1 y1 z1 st hQ
  subst l1 y1 z1
  exact ⟨T', v, Lc, X', hQ, fun _ k => st.trans k⟩
theorem own_selP (hZ : Z.Warmed39 s.vm) {y : MethodName} {n : Nat} (w1 : (Cond.instantiable y.cls n).before a0 Z = true) (w2 : (Cond.privateMethod y).before a0 Z = true) (w3 : (Cond.instanceMethod y).before a0 Z = true) (hy : y.cls ≠ "java/lang/invoke/MethodHandle" ∧ y.cls ≠ "java/lang/invoke/VarHandle") : (Cond.selects y.cls y y).before args s = true := by
  obtain ⟨c, k, h1, h2, -, h3, -⟩ := Cond.instantiable_spec (mvT hZ w1 (args := args))
  exact Jvm.Stand.selects_self_of_private h1 h2 (by simp at h3; exact h3.1) (Cond.privateMethod_at (mvP hZ w2 (args := args))) (mvT hZ w3) hy
theorem own_callP (X : Stand p l e R s m args below meth c T locs cells slots) (hx : p.tables.exec = Jvm.exec) (hZ : Z.Warmed39 s.vm) {own : String} {index : Nat} {y : MethodName} {bytes : ByteArray} {maxL : Nat} {ret : Option FieldType} {rm : Room} {as' : Array Value} {Q : Option Value → Heap → List Loc → Prop}
    (hown : s.vm.findClass own = some m.cls) (w1 : (Cond.methodLink own index y).before a0 Z = true) (w6 : (Cond.instanceMethod y).before a0 Z = true) (w5 : (Cond.selects y.cls y y).before args s = true) (w7 : (Cond.privateMethod y).before a0 Z = true) (w3 : (Cond.initialized y.cls).before a0 Z = true) (w4 : (Cond.code y bytes maxL ret).before a0 Z = true)
    (hy : y.cls ≠ "java/lang/invoke/MethodHandle" ∧ y.cls ≠ "java/lang/invoke/VarHandle") (hM : own_Met l y bytes maxL ret [] rm Z h as' Q) (eT : T.heap = h) {a : Addr} {C : String} (E : Exa Z h a C) {ps : List FieldType} {r : Option FieldType} (hd : parseMethodDescriptor y.desc = some ⟨ps, r⟩) {argsL rest : List Value} (hl : argsL.length = ps.length) (ha : (.ref a :: argsL).toArray = as')
    {g : JFrame} (hg : g.method = m) (hsize : g.locals.size = c.maxLocals) (hstack : g.stack = argsL.reverse ++ .ref a :: rest) (hdg : decode c.code g.pc = .ok (.invokevirtual index, 3)) {W : Nat} (hW : 2 * g.monitorRoom + (rest.map fun v => v.category).sum = W) (h1 : rm.frames + 1 ≤ R.frames) (h2 : W + (maxL + 11) + rm.locals ≤ R.locals) (h3 : cells + rm.cells ≤ R.cells) (h4 : slots + rm.slots ≤ R.slots) :
    own_Came p l e R s m args below meth c T locs (cells + rm.cells) (slots + rm.slots) g 3 rest Q := by
  obtain ⟨cq, q, q'⟩ := E.cell
  obtain ⟨v, _, ⟨T', L', k', n'⟩, -, X', ⟨Lc, hQ, l1, y1, z1⟩, st⟩ := X.privateBack hx (y := y) hown (mvT hZ w1) (mvT hZ w6) w5 (Cond.privateMethod_at (mvP hZ w7 (args := #[]))) (mvT hZ w4) hy (backOf (W := W) hM hZ w4 w3 h1 h2) (g := g) hg hsize (Steps.refl _) (a := a) (by rw [eT]; exact q) q' (argsL := argsL) (rest := rest) (lenOf hd hl) hstack (Nat.le_of_eq hW) hdg (fun _ _ => ⟨ha, eT, h3, h4⟩)
  dsimp only [Pt.U, Pt.locs, Pt.cells, Pt.slots] at X' l1 y1 z1 st hQ
  subst l1 y1 z1
  exact ⟨T', v, Lc, X', hQ, fun _ k => st.trans k⟩
theorem own_nl {n0 : Nat} {Z : State} (O : Old Z n0 h) : n0 ≤ h.size := O.1 ▸ O.2.1
theorem own_tt {x : Bool} (h : x = true) : x = true := h
end Own
section Own2
variable {args : Array Value} {Z : State} {a : Addr} {O f d : String} {k : Int32} {t : Term} {v : Value} {ty : FieldType}
theorem own_fldI (ht : t.eval args Z none [] Z = some (.ref a)) (h : (Cond.eq (.field t O f d) (.int k)).value args Z none Z [] = some true) : Fld Z Z.heap a O f d (.int k) := by
  obtain ⟨x, y, ea, eb, -, k2⟩ := cmp_v (Or.inl h)
  obtain rfl : y = .int k := (Option.some.inj (eb.symm.trans (Term.int_eval k)))
  obtain ⟨z, rfl⟩ := k2
  obtain rfl : z = k := by simpa [Cond.value, ea, eb] using h
  rw [fld_at ht] at ea
  exact Fld.start ea
theorem own_len {c : Cell} (ht : t.eval args Z none [] Z = some (.ref a)) (A : Arr Z Z.heap a c ty) (h : (Cond.eq (.length t) (.int k)).value args Z none Z [] = some true) : c.slots.size < 2 ^ 31 ∧ c.slots.size.toInt32 = k := by
  obtain ⟨x, y, ea, eb, -, k2⟩ := cmp_v (Or.inl h)
  obtain rfl : y = .int k := (Option.some.inj (eb.symm.trans (Term.int_eval k)))
  obtain ⟨z, rfl⟩ := k2
  obtain rfl : z = k := by simpa [Cond.value, ea, eb] using h
  have hc := Arr.fin (State.Warmed39.refl Z).alike A
  simp only [Term.eval, ht, Option.bind_eq_bind, Option.bind_some, hc] at ea
  split at ea
  · rename_i hl
    exact ⟨by simpa using hl, by simpa using ea⟩
  · cases ea
theorem own_lenN {n : Nat} {k : Int32} (h : n < 2 ^ 31) (e : n.toInt32 = k) : n = k.toNatClampNeg := by
  subst e
  have := len_toInt h
  simp [Int32.toNatClampNeg, this]
theorem own_elem {c : Cell} {i : Int32} (ht : t.eval args Z none [] Z = some (.ref a)) (A : Arr Z Z.heap a c ty) (h : (Cond.eq (.elem t (.int i)) (.int k)).value args Z none Z [] = some true) : c.slots[i.toNatClampNeg]? = some (.int k) := by
  obtain ⟨x, y, ea, eb, -, k2⟩ := cmp_v (Or.inl h)
  obtain rfl : y = .int k := (Option.some.inj (eb.symm.trans (Term.int_eval k)))
  obtain ⟨z, rfl⟩ := k2
  obtain rfl : z = k := by simpa [Cond.value, ea, eb] using h
  exact (elem_in ea ht (Term.int_eval i) A.1).2
theorem own_bb (x : Int32) : nar .byte x.toInt8.toInt32 = x.toInt8.toInt32 := by simp [nar]
theorem own_narG (h : v.isRef = true) : narrow ty v = v := by cases v <;> first | rfl | (cases ty <;> rfl) | simp [Value.isRef] at h
theorem own_fitG (h : v.isRef = true) (ht : ty.isReference = true := by rfl) : fits ty v = true := by cases v <;> cases ty <;> simp_all [Value.isRef, fits, FieldType.isReference]
end Own2
def own_put (i : Nat) (vs : List Value) (b0 b1 b2 b3 b4 b5 b6 b7 : Value) : List Value := (((((((vs.set i b0).set (i + 1) b1).set (i + 2) b2).set (i + 3) b3).set (i + 4) b4).set (i + 5) b5).set (i + 6) b6).set (i + 7) b7
theorem own_putL {i : Nat} {vs : List Value} {b0 b1 b2 b3 b4 b5 b6 b7 : Value} : (own_put i vs b0 b1 b2 b3 b4 b5 b6 b7).length = vs.length := by simp only [own_put, List.length_set]
theorem own_all (a0 a1 a2 a3 a4 a5 a6 a7 a8 a9 a10 a11 a12 a13 a14 a15 a16 a17 a18 a19 a20 a21 a22 a23 a24 a25 a26 a27 a28 a29 a30 a31 a32 a33 a34 a35 a36 : Value) : (List.set (List.set (List.set (List.set (List.set (own_put 24 (own_put 16 (own_put 8 (own_put 0 (List.replicate 64 (.int (0 : Int32))) a0 a1 a2 a3 a4 a5 a6 a7) a8 a9 a10 a11 a12 a13 a14 a15) a16 a17 a18 a19 a20 a21 a22 a23) a24 a25 a26 a27 a28 a29 a30 a31) 32 a32) 33 a33) 34 a34) 35 a35) 36 a36) = [a0, a1, a2, a3, a4, a5, a6, a7, a8, a9, a10, a11, a12, a13, a14, a15, a16, a17, a18, a19, a20, a21, a22, a23, a24, a25, a26, a27, a28, a29, a30, a31, a32, a33, a34, a35, a36] ++ List.replicate 27 (.int (0 : Int32)) := by
  simp only [own_put, List.replicate, List.set, List.cons_append, List.nil_append, Nat.reduceAdd]
theorem own_fldN {args : Array Value} {Z : State} {a : Addr} {O f d : String} {t : Term} (ht : t.eval args Z none [] Z = some (.ref a)) (h : (Cond.eq (.field t O f d) .null).value args Z none Z [] = some true) : Fld Z Z.heap a O f d .null := by
  have ea := null_v h
  rw [fld_at ht] at ea
  exact Fld.start ea
theorem own_i37 : (37 : Int32).toInt = 37 := by decide
theorem own_lt37 {n j : Int32} (hn : ¬ n < (37 : Int32)) (hj : j < (37 : Int32)) : j < n := by
  rw [Int32.lt_iff_toInt_lt] at *
  omega
theorem own_ne32 {n : Int32} (hn : ¬ n < (37 : Int32)) : ¬ (32 : Int32) = n := fun q => by subst q; exact hn (by decide)
theorem own_gt32 {n : Int32} (hn : ¬ n < (37 : Int32)) : (32 : Int32) < n := own_lt37 hn (by decide)
theorem own_nat {n : Int32} (h : ¬ n < 0) : n.toInt = (n.toNatClampNeg : Int) := nat_of h
theorem own_le32 {n : Int32} (hn : ¬ n < (37 : Int32)) : (0 : Int32).toNatClampNeg + (32 : Int32).toNatClampNeg ≤ n.toNatClampNeg := by
  have h0 : ¬ n < 0 := fun q => hn (by rw [Int32.lt_iff_toInt_lt] at *; have : (0 : Int32).toInt = 0 := by decide
                                       have := own_i37; omega)
  have h1 := own_nat h0
  rw [Int32.lt_iff_toInt_lt, own_i37] at hn
  have e1 : (0 : Int32).toNatClampNeg = 0 := by decide
  have e2 : (32 : Int32).toNatClampNeg = 32 := by decide
  rw [e1, e2]; omega
theorem own_and63 (q : Int32) : ∃ n : Int32, (q &&& (63 : Int32)) = n ∧ ¬ n < 0 ∧ n.toNatClampNeg ≤ 63 := by
  refine ⟨_, rfl, ?_⟩
  have h1 := c_and q 63 (by decide)
  have e : (63 : Int32).toInt = 63 := by decide
  rw [e] at h1
  have h0 : ¬ (q &&& (63 : Int32)) < 0 := by rw [Int32.lt_iff_toInt_lt, show (0 : Int32).toInt = 0 from by decide]; omega
  have h2 := own_nat h0
  exact ⟨h0, by omega⟩
theorem own_sub1 {n : Int32} (hc : (37 : Int32) < n) : (n - 1).toInt = n.toInt - 1 := by
  rw [Int32.lt_iff_toInt_lt, own_i37] at hc
  have h1 := c_isub n 1
  have h2 := rng32 (n - 1)
  have h3 := rng32 n
  have e : (1 : Int32).toInt = 1 := by decide
  rw [e] at h1
  omega
theorem own_pos1 {n : Int32} (hc : (37 : Int32) < n) : ¬ (n - 1) < 0 := by
  rw [Int32.lt_iff_toInt_lt, own_sub1 hc, show (0 : Int32).toInt = 0 from by decide]
  rw [Int32.lt_iff_toInt_lt, own_i37] at hc
  omega
theorem own_inb {n : Int32} {c : Cell} (hc : (37 : Int32) < n) (h63 : n.toNatClampNeg ≤ 63) (hs : c.slots.size = n.toNatClampNeg) : ¬ ((n - 1) < 0 ∨ c.slots.size ≤ (n - 1).toNatClampNeg) := by
  have h1 := own_sub1 hc
  have h2 := own_pos1 hc
  have h3 := own_nat h2
  have h0 : ¬ n < 0 := by rw [Int32.lt_iff_toInt_lt] at *; rw [own_i37] at hc; rw [show (0 : Int32).toInt = 0 from by decide] at *; omega
  have h4 := own_nat h0
  rintro (q | q)
  · exact h2 q
  · rw [hs] at q; omega
theorem own_set1 {n : Int32} {k : Nat} (hc : (37 : Int32) < n) (h63 : n.toNatClampNeg ≤ 63) (hk : k = 64) : (n - 1).toNatClampNeg < k := by
  have h1 := own_sub1 hc
  have h3 := own_nat (own_pos1 hc)
  have h0 : ¬ n < 0 := by rw [Int32.lt_iff_toInt_lt] at *; rw [own_i37] at hc; rw [show (0 : Int32).toInt = 0 from by decide] at *; omega
  have h4 := own_nat h0
  omega
theorem own_ge37 {n : Int32} (hc : (37 : Int32) < n) : 37 ≤ (n - 1).toNatClampNeg := by
  have h1 := own_sub1 hc
  have h3 := own_nat (own_pos1 hc)
  rw [Int32.lt_iff_toInt_lt, own_i37] at hc
  omega
theorem own_tail {L : List Value} (hL : L.length = 37) {k : Nat} (hk : 37 ≤ k) (R : List Value) (v : Value) : ∃ tl, (L ++ R).set k v = L ++ tl := ⟨R.set (k - 37) v, by rw [List.set_append_right _ _ (by omega), hL]⟩
theorem own_acc {A : Int64} {w : Int32} {k : Int} (hA : A.toInt = k) (h0 : 0 ≤ k) (h1 : k < 16777216) : ((A <<< ((8 : Int32) &&& 0x3f).toInt64) ||| ((w &&& (255 : Int32)).toInt64)).toInt = k * 256 + w.toInt % 256 := by
  have s1 := c_lshl A 8 8 (by decide)
  have s2 := rng64 (A <<< ((8 : Int32) &&& 0x3f).toInt64)
  have s3 := c_mask w 255 8 (by decide) (by decide)
  have s4 := c_i2l (w &&& (255 : Int32))
  have s5 := c_orL (A <<< ((8 : Int32) &&& 0x3f).toInt64) ((w &&& (255 : Int32)).toInt64) 8 (by decide) 256 (by decide)
  have s6 := rng64 ((A <<< ((8 : Int32) &&& 0x3f).toInt64) ||| ((w &&& (255 : Int32)).toInt64))
  rw [hA] at s1
  simp only [Nat.reducePow, Int.cast_ofNat_Int] at s1 s3
  have s7 : (A <<< ((8 : Int32) &&& 0x3f).toInt64).toInt = k * 256 := by omega
  rw [s7, s4, s3] at s5
  have s8 := s5 (by omega) (by omega) (by omega)
  omega
theorem own_b3 (x : Int32) : (x.toInt8.toInt32).toInt % 256 = x.toInt % 256 := by have := (c_i2b x).1; omega
theorem own_us (c q : Int32) (k : Nat) (hk : q.toBitVec.toNat % 32 = k) (h0 : 0 < k) : ((c.toUInt32 >>> (q &&& 31).toUInt32).toInt32).toInt = (c.toInt % 4294967296) / (2 ^ k : Nat) := c_iushr c q k hk h0
theorem own_cnt (c : Int32) : (lcmpW (((((((((0 : Int64) <<< ((8 : Int32) &&& 0x3f).toInt64) ||| (((((c.toUInt32 >>> ((24 : Int32) &&& 31).toUInt32).toInt32).toInt8.toInt32) &&& (255 : Int32)).toInt64)) <<< ((8 : Int32) &&& 0x3f).toInt64) ||| (((((c.toUInt32 >>> ((16 : Int32) &&& 31).toUInt32).toInt32).toInt8.toInt32) &&& (255 : Int32)).toInt64)) <<< ((8 : Int32) &&& 0x3f).toInt64) ||| (((((c.toUInt32 >>> ((8 : Int32) &&& 31).toUInt32).toInt32).toInt8.toInt32) &&& (255 : Int32)).toInt64)) <<< ((8 : Int32) &&& 0x3f).toInt64) ||| (((c.toInt8.toInt32) &&& (255 : Int32)).toInt64)) (c.toInt64 &&& (4294967295 : Int64))) = (0 : Int32) := by
  rw [lw_eq, ← Int64.toInt_inj]
  have r := rng32 c
  have a1 := own_us c 24 24 (by decide) (by decide)
  have a2 := own_us c 16 16 (by decide) (by decide)
  have a3 := own_us c 8 8 (by decide) (by decide)
  simp only [Nat.reducePow, Int.cast_ofNat_Int] at a1 a2 a3
  have z : (0 : Int64).toInt = 0 := by decide
  have k1 := own_acc (w := ((c.toUInt32 >>> ((24 : Int32) &&& 31).toUInt32).toInt32).toInt8.toInt32) z (by omega) (by omega)
  rw [own_b3, a1] at k1
  have k2 := own_acc (w := ((c.toUInt32 >>> ((16 : Int32) &&& 31).toUInt32).toInt32).toInt8.toInt32) k1 (by omega) (by omega)
  rw [own_b3, a2] at k2
  have k3 := own_acc (w := ((c.toUInt32 >>> ((8 : Int32) &&& 31).toUInt32).toInt32).toInt8.toInt32) k2 (by omega) (by omega)
  rw [own_b3, a3] at k3
  have k4 := own_acc (w := c.toInt8.toInt32) k3 (by omega) (by omega)
  rw [own_b3] at k4
  rw [k4]
  have m := c_maskL c.toInt64 4294967295 32 (by decide) (by decide)
  rw [m, c_i2l]
  simp only [Nat.reducePow, Int.cast_ofNat_Int]
  omega
def own_S (Z : State) (we : Addr) : Prop := Sta Z Z.heap "java/util/Optional" "EMPTY" "Ljava/util/Optional;" (.ref we) ∧ Exa Z Z.heap we "java/util/Optional" ∧ Fld Z Z.heap we "java/util/Optional" "value" "Ljava/lang/Object;" .null
theorem own_d_method_3_0 : decode method_3_code 0 = .ok (.aload_n 0, 1) := by decide +kernel
theorem own_d_method_3_1 : decode method_3_code 1 = .ok (.iload_n 1, 1) := by decide +kernel
theorem own_d_method_3_2 : decode method_3_code 2 = .ok (.lload_n 2, 1) := by decide +kernel
theorem own_d_method_3_3 : decode method_3_code 3 = .ok (.bipush 56, 2) := by decide +kernel
theorem own_d_method_3_5 : decode method_3_code 5 = .ok (.lushr, 1) := by decide +kernel
theorem own_d_method_3_6 : decode method_3_code 6 = .ok (.l2i, 1) := by decide +kernel
theorem own_d_method_3_7 : decode method_3_code 7 = .ok (.i2b, 1) := by decide +kernel
theorem own_d_method_3_8 : decode method_3_code 8 = .ok (.bastore, 1) := by decide +kernel
theorem own_d_method_3_9 : decode method_3_code 9 = .ok (.aload_n 0, 1) := by decide +kernel
theorem own_d_method_3_10 : decode method_3_code 10 = .ok (.iload_n 1, 1) := by decide +kernel
theorem own_d_method_3_11 : decode method_3_code 11 = .ok (.iconst 1, 1) := by decide +kernel
theorem own_d_method_3_12 : decode method_3_code 12 = .ok (.iadd, 1) := by decide +kernel
theorem own_d_method_3_13 : decode method_3_code 13 = .ok (.lload_n 2, 1) := by decide +kernel
theorem own_d_method_3_14 : decode method_3_code 14 = .ok (.bipush 48, 2) := by decide +kernel
theorem own_d_method_3_16 : decode method_3_code 16 = .ok (.lushr, 1) := by decide +kernel
theorem own_d_method_3_17 : decode method_3_code 17 = .ok (.l2i, 1) := by decide +kernel
theorem own_d_method_3_18 : decode method_3_code 18 = .ok (.i2b, 1) := by decide +kernel
theorem own_d_method_3_19 : decode method_3_code 19 = .ok (.bastore, 1) := by decide +kernel
theorem own_d_method_3_20 : decode method_3_code 20 = .ok (.aload_n 0, 1) := by decide +kernel
theorem own_d_method_3_21 : decode method_3_code 21 = .ok (.iload_n 1, 1) := by decide +kernel
theorem own_d_method_3_22 : decode method_3_code 22 = .ok (.iconst 2, 1) := by decide +kernel
theorem own_d_method_3_23 : decode method_3_code 23 = .ok (.iadd, 1) := by decide +kernel
theorem own_d_method_3_24 : decode method_3_code 24 = .ok (.lload_n 2, 1) := by decide +kernel
theorem own_d_method_3_25 : decode method_3_code 25 = .ok (.bipush 40, 2) := by decide +kernel
theorem own_d_method_3_27 : decode method_3_code 27 = .ok (.lushr, 1) := by decide +kernel
theorem own_d_method_3_28 : decode method_3_code 28 = .ok (.l2i, 1) := by decide +kernel
theorem own_d_method_3_29 : decode method_3_code 29 = .ok (.i2b, 1) := by decide +kernel
theorem own_d_method_3_30 : decode method_3_code 30 = .ok (.bastore, 1) := by decide +kernel
theorem own_d_method_3_31 : decode method_3_code 31 = .ok (.aload_n 0, 1) := by decide +kernel
theorem own_d_method_3_32 : decode method_3_code 32 = .ok (.iload_n 1, 1) := by decide +kernel
theorem own_d_method_3_33 : decode method_3_code 33 = .ok (.iconst 3, 1) := by decide +kernel
theorem own_d_method_3_34 : decode method_3_code 34 = .ok (.iadd, 1) := by decide +kernel
theorem own_d_method_3_35 : decode method_3_code 35 = .ok (.lload_n 2, 1) := by decide +kernel
theorem own_d_method_3_36 : decode method_3_code 36 = .ok (.bipush 32, 2) := by decide +kernel
theorem own_d_method_3_38 : decode method_3_code 38 = .ok (.lushr, 1) := by decide +kernel
theorem own_d_method_3_39 : decode method_3_code 39 = .ok (.l2i, 1) := by decide +kernel
theorem own_d_method_3_40 : decode method_3_code 40 = .ok (.i2b, 1) := by decide +kernel
theorem own_d_method_3_41 : decode method_3_code 41 = .ok (.bastore, 1) := by decide +kernel
theorem own_d_method_3_42 : decode method_3_code 42 = .ok (.aload_n 0, 1) := by decide +kernel
theorem own_d_method_3_43 : decode method_3_code 43 = .ok (.iload_n 1, 1) := by decide +kernel
theorem own_d_method_3_44 : decode method_3_code 44 = .ok (.iconst 4, 1) := by decide +kernel
theorem own_d_method_3_45 : decode method_3_code 45 = .ok (.iadd, 1) := by decide +kernel
theorem own_d_method_3_46 : decode method_3_code 46 = .ok (.lload_n 2, 1) := by decide +kernel
theorem own_d_method_3_47 : decode method_3_code 47 = .ok (.bipush 24, 2) := by decide +kernel
theorem own_d_method_3_49 : decode method_3_code 49 = .ok (.lushr, 1) := by decide +kernel
theorem own_d_method_3_50 : decode method_3_code 50 = .ok (.l2i, 1) := by decide +kernel
theorem own_d_method_3_51 : decode method_3_code 51 = .ok (.i2b, 1) := by decide +kernel
theorem own_d_method_3_52 : decode method_3_code 52 = .ok (.bastore, 1) := by decide +kernel
theorem own_d_method_3_53 : decode method_3_code 53 = .ok (.aload_n 0, 1) := by decide +kernel
theorem own_d_method_3_54 : decode method_3_code 54 = .ok (.iload_n 1, 1) := by decide +kernel
theorem own_d_method_3_55 : decode method_3_code 55 = .ok (.iconst 5, 1) := by decide +kernel
theorem own_d_method_3_56 : decode method_3_code 56 = .ok (.iadd, 1) := by decide +kernel
theorem own_d_method_3_57 : decode method_3_code 57 = .ok (.lload_n 2, 1) := by decide +kernel
theorem own_d_method_3_58 : decode method_3_code 58 = .ok (.bipush 16, 2) := by decide +kernel
theorem own_d_method_3_60 : decode method_3_code 60 = .ok (.lushr, 1) := by decide +kernel
theorem own_d_method_3_61 : decode method_3_code 61 = .ok (.l2i, 1) := by decide +kernel
theorem own_d_method_3_62 : decode method_3_code 62 = .ok (.i2b, 1) := by decide +kernel
theorem own_d_method_3_63 : decode method_3_code 63 = .ok (.bastore, 1) := by decide +kernel
theorem own_d_method_3_64 : decode method_3_code 64 = .ok (.aload_n 0, 1) := by decide +kernel
theorem own_d_method_3_65 : decode method_3_code 65 = .ok (.iload_n 1, 1) := by decide +kernel
theorem own_d_method_3_66 : decode method_3_code 66 = .ok (.bipush 6, 2) := by decide +kernel
theorem own_d_method_3_68 : decode method_3_code 68 = .ok (.iadd, 1) := by decide +kernel
theorem own_d_method_3_69 : decode method_3_code 69 = .ok (.lload_n 2, 1) := by decide +kernel
theorem own_d_method_3_70 : decode method_3_code 70 = .ok (.bipush 8, 2) := by decide +kernel
theorem own_d_method_3_72 : decode method_3_code 72 = .ok (.lushr, 1) := by decide +kernel
theorem own_d_method_3_73 : decode method_3_code 73 = .ok (.l2i, 1) := by decide +kernel
theorem own_d_method_3_74 : decode method_3_code 74 = .ok (.i2b, 1) := by decide +kernel
theorem own_d_method_3_75 : decode method_3_code 75 = .ok (.bastore, 1) := by decide +kernel
theorem own_d_method_3_76 : decode method_3_code 76 = .ok (.aload_n 0, 1) := by decide +kernel
theorem own_d_method_3_77 : decode method_3_code 77 = .ok (.iload_n 1, 1) := by decide +kernel
theorem own_d_method_3_78 : decode method_3_code 78 = .ok (.bipush 7, 2) := by decide +kernel
theorem own_d_method_3_80 : decode method_3_code 80 = .ok (.iadd, 1) := by decide +kernel
theorem own_d_method_3_81 : decode method_3_code 81 = .ok (.lload_n 2, 1) := by decide +kernel
theorem own_d_method_3_82 : decode method_3_code 82 = .ok (.l2i, 1) := by decide +kernel
theorem own_d_method_3_83 : decode method_3_code 83 = .ok (.i2b, 1) := by decide +kernel
theorem own_d_method_3_84 : decode method_3_code 84 = .ok (.bastore, 1) := by decide +kernel
theorem own_d_method_3_85 : decode method_3_code 85 = .ok (.return_, 1) := by decide +kernel
abbrev own_y_77 : MethodName := ⟨"com/example/tasdik/tasdik/core/appattest/AuthenticatorDataOfAssertionPinLaw", "put8", "([BIJ)V"⟩
theorem own_pn_78 : plainName "com/example/tasdik/tasdik/core/appattest/AuthenticatorDataOfAssertionPinLaw" = true := by first | (simp [plainName, overriddenIn]; done) | decide +kernel
theorem own_ef_rmP0 (m : MethodId) (b : Addr) (n : Int32) (v64 : Int64)  : entryFrame m #[(.ref b), (.int (0 : Int32)), (.long v64)] 4 = mkF m 0 #[.val (.ref b), .val (.int (0 : Int32)), .val (.long v64), .second] [] := by first | (simp [entryFrame, mkF, argsToLocals, Value.category, maxLocals]; done) | rfl
def QrmP0 (Z : State) (we : Addr) (b : Addr) (kb : ClassId) (n : Int32) (vs : List Value) (v64 : Int64) (h0 : Heap) (n0 : Nat) (v : Option Value) (h : Heap) (L : List Loc) : Prop := v = none ∧ Fr n0 L ∧ Keep h0 h [b] ∧ Arv Z h b kb .byte n (own_put 0 vs (.int ((((v64.toUInt64 >>> ((56 : Int32) &&& 0x3f).toInt64.toUInt64).toInt64).toInt32).toInt8.toInt32)) (.int ((((v64.toUInt64 >>> ((48 : Int32) &&& 0x3f).toInt64.toUInt64).toInt64).toInt32).toInt8.toInt32)) (.int ((((v64.toUInt64 >>> ((40 : Int32) &&& 0x3f).toInt64.toUInt64).toInt64).toInt32).toInt8.toInt32)) (.int ((((v64.toUInt64 >>> ((32 : Int32) &&& 0x3f).toInt64.toUInt64).toInt64).toInt32).toInt8.toInt32)) (.int ((((v64.toUInt64 >>> ((24 : Int32) &&& 0x3f).toInt64.toUInt64).toInt64).toInt32).toInt8.toInt32)) (.int ((((v64.toUInt64 >>> ((16 : Int32) &&& 0x3f).toInt64.toUInt64).toInt64).toInt32).toInt8.toInt32)) (.int ((((v64.toUInt64 >>> ((8 : Int32) &&& 0x3f).toInt64.toUInt64).toInt64).toInt32).toInt8.toInt32)) (.int ((v64.toInt32).toInt8.toInt32))) (.int (0 : Int32))
set_option maxRecDepth 65536 in
set_option maxHeartbeats 40000000 in
theorem rmP0 (l : Launch) (Z : State) (a0 : Array Value) (hw : own_H a0 Z) (ws : List Jvm.Cond) (we : Addr) (hS : own_S Z we) (b : Addr) (kb : ClassId) (n : Int32) (vs : List Value) (v64 : Int64) (h0 : Heap) (n0 : Nat) (O0 : Old Z n0 h0) (V : Arv Z h0 b kb .byte n vs (.int (0 : Int32))) (gb : n0 ≤ b) (hl : vs.length = 64) (hn : ¬ n < (37 : Int32)) :
    own_Met l own_y_77 method_3_code 4 none ws ({ frames := 0, cells := 0, slots := 0, locals := 0 } : Room) Z h0 #[(.ref b), (.int (0 : Int32)), (.long v64)] (QrmP0 Z we b kb n vs v64 h0 n0) := by
  refine own_body (plainFor_of_name own_pn_78) ?_
  intro p e s m below meth c s₁ hx hby hml hown hnm hret hlk hZ e0 X0
  have N0 := Fr.nil n0
  refine own_st (fun u_ k_ => castTop (own_ef_rmP0 m b n v64) k_) ?_
  show own_Go p e below _ (s₁.setTop (mkF m 0 #[.val (.ref b), .val (.int (0 : Int32)), .val (.long v64), .second] []))
  refine own_st (fun u_ k_ => XS.aloadN X0.here hx rfl (hb hby own_d_method_3_0) rfl rfl k_) ?_
  show own_Go p e below _ (s₁.setTop (mkF m 1 #[.val (.ref b), .val (.int (0 : Int32)), .val (.long v64), .second] [(.ref b)]))
  refine own_st (fun u_ k_ => XS.iloadN X0.here hx rfl (hb hby own_d_method_3_1) rfl k_) ?_
  show own_Go p e below _ (s₁.setTop (mkF m 2 #[.val (.ref b), .val (.int (0 : Int32)), .val (.long v64), .second] [(.int (0 : Int32)), (.ref b)]))
  refine own_st (fun u_ k_ => XS.lloadN X0.here hx rfl (hb hby own_d_method_3_2) rfl k_) ?_
  show own_Go p e below _ (s₁.setTop (mkF m 3 #[.val (.ref b), .val (.int (0 : Int32)), .val (.long v64), .second] [(.long v64), (.int (0 : Int32)), (.ref b)]))
  refine own_st (fun u_ k_ => XS.bipush X0.here hx rfl (hb hby own_d_method_3_3) k_) ?_
  show own_Go p e below _ (s₁.setTop (mkF m 5 #[.val (.ref b), .val (.int (0 : Int32)), .val (.long v64), .second] [(.int (56 : Int32)), (.long v64), (.int (0 : Int32)), (.ref b)]))
  refine own_st (fun u_ k_ => XS.lushr X0.here hx rfl (hb hby own_d_method_3_5) rfl k_) ?_
  show own_Go p e below _ (s₁.setTop (mkF m 6 #[.val (.ref b), .val (.int (0 : Int32)), .val (.long v64), .second] [(.long ((v64.toUInt64 >>> ((56 : Int32) &&& 0x3f).toInt64.toUInt64).toInt64)), (.int (0 : Int32)), (.ref b)]))
  refine own_st (fun u_ k_ => XS.l2i X0.here hx rfl (hb hby own_d_method_3_6) rfl k_) ?_
  show own_Go p e below _ (s₁.setTop (mkF m 7 #[.val (.ref b), .val (.int (0 : Int32)), .val (.long v64), .second] [(.int (((v64.toUInt64 >>> ((56 : Int32) &&& 0x3f).toInt64.toUInt64).toInt64).toInt32)), (.int (0 : Int32)), (.ref b)]))
  refine own_st (fun u_ k_ => XS.i2b X0.here hx rfl (hb hby own_d_method_3_7) rfl k_) ?_
  show own_Go p e below _ (s₁.setTop (mkF m 8 #[.val (.ref b), .val (.int (0 : Int32)), .val (.long v64), .second] [(.int ((((v64.toUInt64 >>> ((56 : Int32) &&& 0x3f).toInt64.toUInt64).toInt64).toInt32).toInt8.toInt32)), (.int (0 : Int32)), (.ref b)]))
  obtain ⟨cl1, Ar1, q1, S1, N1, H1, G1⟩ := id V
  have hi1 : ¬ ((0 : Int32) < 0 ∨ cl1.slots.size ≤ ((0 : Int32)).toNatClampNeg) := inb_of S1 ⟨by decide, own_lt37 hn (by decide)⟩
  obtain ⟨T2, h2, X2, e2, W2, st2⟩ := stB X0 hx hZ e0 Ar1 (j := (0 : Int32)) hi1 (g := (mkF m 8 #[.val (.ref b), .val (.int (0 : Int32)), .val (.long v64), .second] [(.int ((((v64.toUInt64 >>> ((56 : Int32) &&& 0x3f).toInt64.toUInt64).toInt64).toInt32).toInt8.toInt32)), (.int (0 : Int32)), (.ref b)])) rfl rfl (hb hby own_d_method_3_8)
  rw [own_bb] at W2
  have N2 := Fr.snoc X2 N0 gb
  have V2 : Arv Z h2 b kb .byte n (List.set vs 0 (.int ((((v64.toUInt64 >>> ((56 : Int32) &&& 0x3f).toInt64.toUInt64).toInt64).toInt32).toInt8.toInt32))) (.int (0 : Int32)) := Arv.set Ar1 q1 S1 N1 H1 G1 (fits_nar_byte _) W2 0 rfl (by simp only [List.length_set, hl]; decide)
  refine own_st (fun u_ k_ => st2 u_ k_) ?_
  show own_Go p e below _ (T2.setTop (mkF m 9 #[.val (.ref b), .val (.int (0 : Int32)), .val (.long v64), .second] []))
  refine own_st (fun u_ k_ => XS.aloadN X2.here hx rfl (hb hby own_d_method_3_9) rfl rfl k_) ?_
  show own_Go p e below _ (T2.setTop (mkF m 10 #[.val (.ref b), .val (.int (0 : Int32)), .val (.long v64), .second] [(.ref b)]))
  refine own_st (fun u_ k_ => XS.iloadN X2.here hx rfl (hb hby own_d_method_3_10) rfl k_) ?_
  show own_Go p e below _ (T2.setTop (mkF m 11 #[.val (.ref b), .val (.int (0 : Int32)), .val (.long v64), .second] [(.int (0 : Int32)), (.ref b)]))
  refine own_st (fun u_ k_ => XS.iconst X2.here hx rfl (hb hby own_d_method_3_11) k_) ?_
  show own_Go p e below _ (T2.setTop (mkF m 12 #[.val (.ref b), .val (.int (0 : Int32)), .val (.long v64), .second] [(.int (1 : Int32)), (.int (0 : Int32)), (.ref b)]))
  refine own_st (fun u_ k_ => XS.iadd X2.here hx rfl (hb hby own_d_method_3_12) rfl k_) ?_
  show own_Go p e below _ (T2.setTop (mkF m 13 #[.val (.ref b), .val (.int (0 : Int32)), .val (.long v64), .second] [(.int (1 : Int32)), (.ref b)]))
  refine own_st (fun u_ k_ => XS.lloadN X2.here hx rfl (hb hby own_d_method_3_13) rfl k_) ?_
  show own_Go p e below _ (T2.setTop (mkF m 14 #[.val (.ref b), .val (.int (0 : Int32)), .val (.long v64), .second] [(.long v64), (.int (1 : Int32)), (.ref b)]))
  refine own_st (fun u_ k_ => XS.bipush X2.here hx rfl (hb hby own_d_method_3_14) k_) ?_
  show own_Go p e below _ (T2.setTop (mkF m 16 #[.val (.ref b), .val (.int (0 : Int32)), .val (.long v64), .second] [(.int (48 : Int32)), (.long v64), (.int (1 : Int32)), (.ref b)]))
  refine own_st (fun u_ k_ => XS.lushr X2.here hx rfl (hb hby own_d_method_3_16) rfl k_) ?_
  show own_Go p e below _ (T2.setTop (mkF m 17 #[.val (.ref b), .val (.int (0 : Int32)), .val (.long v64), .second] [(.long ((v64.toUInt64 >>> ((48 : Int32) &&& 0x3f).toInt64.toUInt64).toInt64)), (.int (1 : Int32)), (.ref b)]))
  refine own_st (fun u_ k_ => XS.l2i X2.here hx rfl (hb hby own_d_method_3_17) rfl k_) ?_
  show own_Go p e below _ (T2.setTop (mkF m 18 #[.val (.ref b), .val (.int (0 : Int32)), .val (.long v64), .second] [(.int (((v64.toUInt64 >>> ((48 : Int32) &&& 0x3f).toInt64.toUInt64).toInt64).toInt32)), (.int (1 : Int32)), (.ref b)]))
  refine own_st (fun u_ k_ => XS.i2b X2.here hx rfl (hb hby own_d_method_3_18) rfl k_) ?_
  show own_Go p e below _ (T2.setTop (mkF m 19 #[.val (.ref b), .val (.int (0 : Int32)), .val (.long v64), .second] [(.int ((((v64.toUInt64 >>> ((48 : Int32) &&& 0x3f).toInt64.toUInt64).toInt64).toInt32).toInt8.toInt32)), (.int (1 : Int32)), (.ref b)]))
  obtain ⟨cl3, Ar3, q3, S3, N3, H3, G3⟩ := id V2
  have hi3 : ¬ ((1 : Int32) < 0 ∨ cl3.slots.size ≤ ((1 : Int32)).toNatClampNeg) := inb_of S3 ⟨by decide, own_lt37 hn (by decide)⟩
  obtain ⟨T4, h4, X4, e4, W4, st4⟩ := stB X2 hx hZ e2 Ar3 (j := (1 : Int32)) hi3 (g := (mkF m 19 #[.val (.ref b), .val (.int (0 : Int32)), .val (.long v64), .second] [(.int ((((v64.toUInt64 >>> ((48 : Int32) &&& 0x3f).toInt64.toUInt64).toInt64).toInt32).toInt8.toInt32)), (.int (1 : Int32)), (.ref b)])) rfl rfl (hb hby own_d_method_3_19)
  rw [own_bb] at W4
  have N4 := Fr.snoc X4 N2 gb
  have V4 : Arv Z h4 b kb .byte n (List.set (List.set vs 0 (.int ((((v64.toUInt64 >>> ((56 : Int32) &&& 0x3f).toInt64.toUInt64).toInt64).toInt32).toInt8.toInt32))) 1 (.int ((((v64.toUInt64 >>> ((48 : Int32) &&& 0x3f).toInt64.toUInt64).toInt64).toInt32).toInt8.toInt32))) (.int (0 : Int32)) := Arv.set Ar3 q3 S3 N3 H3 G3 (fits_nar_byte _) W4 1 rfl (by simp only [List.length_set, hl]; decide)
  refine own_st (fun u_ k_ => st4 u_ k_) ?_
  show own_Go p e below _ (T4.setTop (mkF m 20 #[.val (.ref b), .val (.int (0 : Int32)), .val (.long v64), .second] []))
  refine own_st (fun u_ k_ => XS.aloadN X4.here hx rfl (hb hby own_d_method_3_20) rfl rfl k_) ?_
  show own_Go p e below _ (T4.setTop (mkF m 21 #[.val (.ref b), .val (.int (0 : Int32)), .val (.long v64), .second] [(.ref b)]))
  refine own_st (fun u_ k_ => XS.iloadN X4.here hx rfl (hb hby own_d_method_3_21) rfl k_) ?_
  show own_Go p e below _ (T4.setTop (mkF m 22 #[.val (.ref b), .val (.int (0 : Int32)), .val (.long v64), .second] [(.int (0 : Int32)), (.ref b)]))
  refine own_st (fun u_ k_ => XS.iconst X4.here hx rfl (hb hby own_d_method_3_22) k_) ?_
  show own_Go p e below _ (T4.setTop (mkF m 23 #[.val (.ref b), .val (.int (0 : Int32)), .val (.long v64), .second] [(.int (2 : Int32)), (.int (0 : Int32)), (.ref b)]))
  refine own_st (fun u_ k_ => XS.iadd X4.here hx rfl (hb hby own_d_method_3_23) rfl k_) ?_
  show own_Go p e below _ (T4.setTop (mkF m 24 #[.val (.ref b), .val (.int (0 : Int32)), .val (.long v64), .second] [(.int (2 : Int32)), (.ref b)]))
  refine own_st (fun u_ k_ => XS.lloadN X4.here hx rfl (hb hby own_d_method_3_24) rfl k_) ?_
  show own_Go p e below _ (T4.setTop (mkF m 25 #[.val (.ref b), .val (.int (0 : Int32)), .val (.long v64), .second] [(.long v64), (.int (2 : Int32)), (.ref b)]))
  refine own_st (fun u_ k_ => XS.bipush X4.here hx rfl (hb hby own_d_method_3_25) k_) ?_
  show own_Go p e below _ (T4.setTop (mkF m 27 #[.val (.ref b), .val (.int (0 : Int32)), .val (.long v64), .second] [(.int (40 : Int32)), (.long v64), (.int (2 : Int32)), (.ref b)]))
  refine own_st (fun u_ k_ => XS.lushr X4.here hx rfl (hb hby own_d_method_3_27) rfl k_) ?_
  show own_Go p e below _ (T4.setTop (mkF m 28 #[.val (.ref b), .val (.int (0 : Int32)), .val (.long v64), .second] [(.long ((v64.toUInt64 >>> ((40 : Int32) &&& 0x3f).toInt64.toUInt64).toInt64)), (.int (2 : Int32)), (.ref b)]))
  refine own_st (fun u_ k_ => XS.l2i X4.here hx rfl (hb hby own_d_method_3_28) rfl k_) ?_
  show own_Go p e below _ (T4.setTop (mkF m 29 #[.val (.ref b), .val (.int (0 : Int32)), .val (.long v64), .second] [(.int (((v64.toUInt64 >>> ((40 : Int32) &&& 0x3f).toInt64.toUInt64).toInt64).toInt32)), (.int (2 : Int32)), (.ref b)]))
  refine own_st (fun u_ k_ => XS.i2b X4.here hx rfl (hb hby own_d_method_3_29) rfl k_) ?_
  show own_Go p e below _ (T4.setTop (mkF m 30 #[.val (.ref b), .val (.int (0 : Int32)), .val (.long v64), .second] [(.int ((((v64.toUInt64 >>> ((40 : Int32) &&& 0x3f).toInt64.toUInt64).toInt64).toInt32).toInt8.toInt32)), (.int (2 : Int32)), (.ref b)]))
  obtain ⟨cl5, Ar5, q5, S5, N5, H5, G5⟩ := id V4
  have hi5 : ¬ ((2 : Int32) < 0 ∨ cl5.slots.size ≤ ((2 : Int32)).toNatClampNeg) := inb_of S5 ⟨by decide, own_lt37 hn (by decide)⟩
  obtain ⟨T6, h6, X6, e6, W6, st6⟩ := stB X4 hx hZ e4 Ar5 (j := (2 : Int32)) hi5 (g := (mkF m 30 #[.val (.ref b), .val (.int (0 : Int32)), .val (.long v64), .second] [(.int ((((v64.toUInt64 >>> ((40 : Int32) &&& 0x3f).toInt64.toUInt64).toInt64).toInt32).toInt8.toInt32)), (.int (2 : Int32)), (.ref b)])) rfl rfl (hb hby own_d_method_3_30)
  rw [own_bb] at W6
  have N6 := Fr.snoc X6 N4 gb
  have V6 : Arv Z h6 b kb .byte n (List.set (List.set (List.set vs 0 (.int ((((v64.toUInt64 >>> ((56 : Int32) &&& 0x3f).toInt64.toUInt64).toInt64).toInt32).toInt8.toInt32))) 1 (.int ((((v64.toUInt64 >>> ((48 : Int32) &&& 0x3f).toInt64.toUInt64).toInt64).toInt32).toInt8.toInt32))) 2 (.int ((((v64.toUInt64 >>> ((40 : Int32) &&& 0x3f).toInt64.toUInt64).toInt64).toInt32).toInt8.toInt32))) (.int (0 : Int32)) := Arv.set Ar5 q5 S5 N5 H5 G5 (fits_nar_byte _) W6 2 rfl (by simp only [List.length_set, hl]; decide)
  refine own_st (fun u_ k_ => st6 u_ k_) ?_
  show own_Go p e below _ (T6.setTop (mkF m 31 #[.val (.ref b), .val (.int (0 : Int32)), .val (.long v64), .second] []))
  refine own_st (fun u_ k_ => XS.aloadN X6.here hx rfl (hb hby own_d_method_3_31) rfl rfl k_) ?_
  show own_Go p e below _ (T6.setTop (mkF m 32 #[.val (.ref b), .val (.int (0 : Int32)), .val (.long v64), .second] [(.ref b)]))
  refine own_st (fun u_ k_ => XS.iloadN X6.here hx rfl (hb hby own_d_method_3_32) rfl k_) ?_
  show own_Go p e below _ (T6.setTop (mkF m 33 #[.val (.ref b), .val (.int (0 : Int32)), .val (.long v64), .second] [(.int (0 : Int32)), (.ref b)]))
  refine own_st (fun u_ k_ => XS.iconst X6.here hx rfl (hb hby own_d_method_3_33) k_) ?_
  show own_Go p e below _ (T6.setTop (mkF m 34 #[.val (.ref b), .val (.int (0 : Int32)), .val (.long v64), .second] [(.int (3 : Int32)), (.int (0 : Int32)), (.ref b)]))
  refine own_st (fun u_ k_ => XS.iadd X6.here hx rfl (hb hby own_d_method_3_34) rfl k_) ?_
  show own_Go p e below _ (T6.setTop (mkF m 35 #[.val (.ref b), .val (.int (0 : Int32)), .val (.long v64), .second] [(.int (3 : Int32)), (.ref b)]))
  refine own_st (fun u_ k_ => XS.lloadN X6.here hx rfl (hb hby own_d_method_3_35) rfl k_) ?_
  show own_Go p e below _ (T6.setTop (mkF m 36 #[.val (.ref b), .val (.int (0 : Int32)), .val (.long v64), .second] [(.long v64), (.int (3 : Int32)), (.ref b)]))
  refine own_st (fun u_ k_ => XS.bipush X6.here hx rfl (hb hby own_d_method_3_36) k_) ?_
  show own_Go p e below _ (T6.setTop (mkF m 38 #[.val (.ref b), .val (.int (0 : Int32)), .val (.long v64), .second] [(.int (32 : Int32)), (.long v64), (.int (3 : Int32)), (.ref b)]))
  refine own_st (fun u_ k_ => XS.lushr X6.here hx rfl (hb hby own_d_method_3_38) rfl k_) ?_
  show own_Go p e below _ (T6.setTop (mkF m 39 #[.val (.ref b), .val (.int (0 : Int32)), .val (.long v64), .second] [(.long ((v64.toUInt64 >>> ((32 : Int32) &&& 0x3f).toInt64.toUInt64).toInt64)), (.int (3 : Int32)), (.ref b)]))
  refine own_st (fun u_ k_ => XS.l2i X6.here hx rfl (hb hby own_d_method_3_39) rfl k_) ?_
  show own_Go p e below _ (T6.setTop (mkF m 40 #[.val (.ref b), .val (.int (0 : Int32)), .val (.long v64), .second] [(.int (((v64.toUInt64 >>> ((32 : Int32) &&& 0x3f).toInt64.toUInt64).toInt64).toInt32)), (.int (3 : Int32)), (.ref b)]))
  refine own_st (fun u_ k_ => XS.i2b X6.here hx rfl (hb hby own_d_method_3_40) rfl k_) ?_
  show own_Go p e below _ (T6.setTop (mkF m 41 #[.val (.ref b), .val (.int (0 : Int32)), .val (.long v64), .second] [(.int ((((v64.toUInt64 >>> ((32 : Int32) &&& 0x3f).toInt64.toUInt64).toInt64).toInt32).toInt8.toInt32)), (.int (3 : Int32)), (.ref b)]))
  obtain ⟨cl7, Ar7, q7, S7, N7, H7, G7⟩ := id V6
  have hi7 : ¬ ((3 : Int32) < 0 ∨ cl7.slots.size ≤ ((3 : Int32)).toNatClampNeg) := inb_of S7 ⟨by decide, own_lt37 hn (by decide)⟩
  obtain ⟨T8, h8, X8, e8, W8, st8⟩ := stB X6 hx hZ e6 Ar7 (j := (3 : Int32)) hi7 (g := (mkF m 41 #[.val (.ref b), .val (.int (0 : Int32)), .val (.long v64), .second] [(.int ((((v64.toUInt64 >>> ((32 : Int32) &&& 0x3f).toInt64.toUInt64).toInt64).toInt32).toInt8.toInt32)), (.int (3 : Int32)), (.ref b)])) rfl rfl (hb hby own_d_method_3_41)
  rw [own_bb] at W8
  have N8 := Fr.snoc X8 N6 gb
  have V8 : Arv Z h8 b kb .byte n (List.set (List.set (List.set (List.set vs 0 (.int ((((v64.toUInt64 >>> ((56 : Int32) &&& 0x3f).toInt64.toUInt64).toInt64).toInt32).toInt8.toInt32))) 1 (.int ((((v64.toUInt64 >>> ((48 : Int32) &&& 0x3f).toInt64.toUInt64).toInt64).toInt32).toInt8.toInt32))) 2 (.int ((((v64.toUInt64 >>> ((40 : Int32) &&& 0x3f).toInt64.toUInt64).toInt64).toInt32).toInt8.toInt32))) 3 (.int ((((v64.toUInt64 >>> ((32 : Int32) &&& 0x3f).toInt64.toUInt64).toInt64).toInt32).toInt8.toInt32))) (.int (0 : Int32)) := Arv.set Ar7 q7 S7 N7 H7 G7 (fits_nar_byte _) W8 3 rfl (by simp only [List.length_set, hl]; decide)
  refine own_st (fun u_ k_ => st8 u_ k_) ?_
  show own_Go p e below _ (T8.setTop (mkF m 42 #[.val (.ref b), .val (.int (0 : Int32)), .val (.long v64), .second] []))
  refine own_st (fun u_ k_ => XS.aloadN X8.here hx rfl (hb hby own_d_method_3_42) rfl rfl k_) ?_
  show own_Go p e below _ (T8.setTop (mkF m 43 #[.val (.ref b), .val (.int (0 : Int32)), .val (.long v64), .second] [(.ref b)]))
  refine own_st (fun u_ k_ => XS.iloadN X8.here hx rfl (hb hby own_d_method_3_43) rfl k_) ?_
  show own_Go p e below _ (T8.setTop (mkF m 44 #[.val (.ref b), .val (.int (0 : Int32)), .val (.long v64), .second] [(.int (0 : Int32)), (.ref b)]))
  refine own_st (fun u_ k_ => XS.iconst X8.here hx rfl (hb hby own_d_method_3_44) k_) ?_
  show own_Go p e below _ (T8.setTop (mkF m 45 #[.val (.ref b), .val (.int (0 : Int32)), .val (.long v64), .second] [(.int (4 : Int32)), (.int (0 : Int32)), (.ref b)]))
  refine own_st (fun u_ k_ => XS.iadd X8.here hx rfl (hb hby own_d_method_3_45) rfl k_) ?_
  show own_Go p e below _ (T8.setTop (mkF m 46 #[.val (.ref b), .val (.int (0 : Int32)), .val (.long v64), .second] [(.int (4 : Int32)), (.ref b)]))
  refine own_st (fun u_ k_ => XS.lloadN X8.here hx rfl (hb hby own_d_method_3_46) rfl k_) ?_
  show own_Go p e below _ (T8.setTop (mkF m 47 #[.val (.ref b), .val (.int (0 : Int32)), .val (.long v64), .second] [(.long v64), (.int (4 : Int32)), (.ref b)]))
  refine own_st (fun u_ k_ => XS.bipush X8.here hx rfl (hb hby own_d_method_3_47) k_) ?_
  show own_Go p e below _ (T8.setTop (mkF m 49 #[.val (.ref b), .val (.int (0 : Int32)), .val (.long v64), .second] [(.int (24 : Int32)), (.long v64), (.int (4 : Int32)), (.ref b)]))
  refine own_st (fun u_ k_ => XS.lushr X8.here hx rfl (hb hby own_d_method_3_49) rfl k_) ?_
  show own_Go p e below _ (T8.setTop (mkF m 50 #[.val (.ref b), .val (.int (0 : Int32)), .val (.long v64), .second] [(.long ((v64.toUInt64 >>> ((24 : Int32) &&& 0x3f).toInt64.toUInt64).toInt64)), (.int (4 : Int32)), (.ref b)]))
  refine own_st (fun u_ k_ => XS.l2i X8.here hx rfl (hb hby own_d_method_3_50) rfl k_) ?_
  show own_Go p e below _ (T8.setTop (mkF m 51 #[.val (.ref b), .val (.int (0 : Int32)), .val (.long v64), .second] [(.int (((v64.toUInt64 >>> ((24 : Int32) &&& 0x3f).toInt64.toUInt64).toInt64).toInt32)), (.int (4 : Int32)), (.ref b)]))
  refine own_st (fun u_ k_ => XS.i2b X8.here hx rfl (hb hby own_d_method_3_51) rfl k_) ?_
  show own_Go p e below _ (T8.setTop (mkF m 52 #[.val (.ref b), .val (.int (0 : Int32)), .val (.long v64), .second] [(.int ((((v64.toUInt64 >>> ((24 : Int32) &&& 0x3f).toInt64.toUInt64).toInt64).toInt32).toInt8.toInt32)), (.int (4 : Int32)), (.ref b)]))
  obtain ⟨cl9, Ar9, q9, S9, N9, H9, G9⟩ := id V8
  have hi9 : ¬ ((4 : Int32) < 0 ∨ cl9.slots.size ≤ ((4 : Int32)).toNatClampNeg) := inb_of S9 ⟨by decide, own_lt37 hn (by decide)⟩
  obtain ⟨T10, h10, X10, e10, W10, st10⟩ := stB X8 hx hZ e8 Ar9 (j := (4 : Int32)) hi9 (g := (mkF m 52 #[.val (.ref b), .val (.int (0 : Int32)), .val (.long v64), .second] [(.int ((((v64.toUInt64 >>> ((24 : Int32) &&& 0x3f).toInt64.toUInt64).toInt64).toInt32).toInt8.toInt32)), (.int (4 : Int32)), (.ref b)])) rfl rfl (hb hby own_d_method_3_52)
  rw [own_bb] at W10
  have N10 := Fr.snoc X10 N8 gb
  have V10 : Arv Z h10 b kb .byte n (List.set (List.set (List.set (List.set (List.set vs 0 (.int ((((v64.toUInt64 >>> ((56 : Int32) &&& 0x3f).toInt64.toUInt64).toInt64).toInt32).toInt8.toInt32))) 1 (.int ((((v64.toUInt64 >>> ((48 : Int32) &&& 0x3f).toInt64.toUInt64).toInt64).toInt32).toInt8.toInt32))) 2 (.int ((((v64.toUInt64 >>> ((40 : Int32) &&& 0x3f).toInt64.toUInt64).toInt64).toInt32).toInt8.toInt32))) 3 (.int ((((v64.toUInt64 >>> ((32 : Int32) &&& 0x3f).toInt64.toUInt64).toInt64).toInt32).toInt8.toInt32))) 4 (.int ((((v64.toUInt64 >>> ((24 : Int32) &&& 0x3f).toInt64.toUInt64).toInt64).toInt32).toInt8.toInt32))) (.int (0 : Int32)) := Arv.set Ar9 q9 S9 N9 H9 G9 (fits_nar_byte _) W10 4 rfl (by simp only [List.length_set, hl]; decide)
  refine own_st (fun u_ k_ => st10 u_ k_) ?_
  show own_Go p e below _ (T10.setTop (mkF m 53 #[.val (.ref b), .val (.int (0 : Int32)), .val (.long v64), .second] []))
  refine own_st (fun u_ k_ => XS.aloadN X10.here hx rfl (hb hby own_d_method_3_53) rfl rfl k_) ?_
  show own_Go p e below _ (T10.setTop (mkF m 54 #[.val (.ref b), .val (.int (0 : Int32)), .val (.long v64), .second] [(.ref b)]))
  refine own_st (fun u_ k_ => XS.iloadN X10.here hx rfl (hb hby own_d_method_3_54) rfl k_) ?_
  show own_Go p e below _ (T10.setTop (mkF m 55 #[.val (.ref b), .val (.int (0 : Int32)), .val (.long v64), .second] [(.int (0 : Int32)), (.ref b)]))
  refine own_st (fun u_ k_ => XS.iconst X10.here hx rfl (hb hby own_d_method_3_55) k_) ?_
  show own_Go p e below _ (T10.setTop (mkF m 56 #[.val (.ref b), .val (.int (0 : Int32)), .val (.long v64), .second] [(.int (5 : Int32)), (.int (0 : Int32)), (.ref b)]))
  refine own_st (fun u_ k_ => XS.iadd X10.here hx rfl (hb hby own_d_method_3_56) rfl k_) ?_
  show own_Go p e below _ (T10.setTop (mkF m 57 #[.val (.ref b), .val (.int (0 : Int32)), .val (.long v64), .second] [(.int (5 : Int32)), (.ref b)]))
  refine own_st (fun u_ k_ => XS.lloadN X10.here hx rfl (hb hby own_d_method_3_57) rfl k_) ?_
  show own_Go p e below _ (T10.setTop (mkF m 58 #[.val (.ref b), .val (.int (0 : Int32)), .val (.long v64), .second] [(.long v64), (.int (5 : Int32)), (.ref b)]))
  refine own_st (fun u_ k_ => XS.bipush X10.here hx rfl (hb hby own_d_method_3_58) k_) ?_
  show own_Go p e below _ (T10.setTop (mkF m 60 #[.val (.ref b), .val (.int (0 : Int32)), .val (.long v64), .second] [(.int (16 : Int32)), (.long v64), (.int (5 : Int32)), (.ref b)]))
  refine own_st (fun u_ k_ => XS.lushr X10.here hx rfl (hb hby own_d_method_3_60) rfl k_) ?_
  show own_Go p e below _ (T10.setTop (mkF m 61 #[.val (.ref b), .val (.int (0 : Int32)), .val (.long v64), .second] [(.long ((v64.toUInt64 >>> ((16 : Int32) &&& 0x3f).toInt64.toUInt64).toInt64)), (.int (5 : Int32)), (.ref b)]))
  refine own_st (fun u_ k_ => XS.l2i X10.here hx rfl (hb hby own_d_method_3_61) rfl k_) ?_
  show own_Go p e below _ (T10.setTop (mkF m 62 #[.val (.ref b), .val (.int (0 : Int32)), .val (.long v64), .second] [(.int (((v64.toUInt64 >>> ((16 : Int32) &&& 0x3f).toInt64.toUInt64).toInt64).toInt32)), (.int (5 : Int32)), (.ref b)]))
  refine own_st (fun u_ k_ => XS.i2b X10.here hx rfl (hb hby own_d_method_3_62) rfl k_) ?_
  show own_Go p e below _ (T10.setTop (mkF m 63 #[.val (.ref b), .val (.int (0 : Int32)), .val (.long v64), .second] [(.int ((((v64.toUInt64 >>> ((16 : Int32) &&& 0x3f).toInt64.toUInt64).toInt64).toInt32).toInt8.toInt32)), (.int (5 : Int32)), (.ref b)]))
  obtain ⟨cl11, Ar11, q11, S11, N11, H11, G11⟩ := id V10
  have hi11 : ¬ ((5 : Int32) < 0 ∨ cl11.slots.size ≤ ((5 : Int32)).toNatClampNeg) := inb_of S11 ⟨by decide, own_lt37 hn (by decide)⟩
  obtain ⟨T12, h12, X12, e12, W12, st12⟩ := stB X10 hx hZ e10 Ar11 (j := (5 : Int32)) hi11 (g := (mkF m 63 #[.val (.ref b), .val (.int (0 : Int32)), .val (.long v64), .second] [(.int ((((v64.toUInt64 >>> ((16 : Int32) &&& 0x3f).toInt64.toUInt64).toInt64).toInt32).toInt8.toInt32)), (.int (5 : Int32)), (.ref b)])) rfl rfl (hb hby own_d_method_3_63)
  rw [own_bb] at W12
  have N12 := Fr.snoc X12 N10 gb
  have V12 : Arv Z h12 b kb .byte n (List.set (List.set (List.set (List.set (List.set (List.set vs 0 (.int ((((v64.toUInt64 >>> ((56 : Int32) &&& 0x3f).toInt64.toUInt64).toInt64).toInt32).toInt8.toInt32))) 1 (.int ((((v64.toUInt64 >>> ((48 : Int32) &&& 0x3f).toInt64.toUInt64).toInt64).toInt32).toInt8.toInt32))) 2 (.int ((((v64.toUInt64 >>> ((40 : Int32) &&& 0x3f).toInt64.toUInt64).toInt64).toInt32).toInt8.toInt32))) 3 (.int ((((v64.toUInt64 >>> ((32 : Int32) &&& 0x3f).toInt64.toUInt64).toInt64).toInt32).toInt8.toInt32))) 4 (.int ((((v64.toUInt64 >>> ((24 : Int32) &&& 0x3f).toInt64.toUInt64).toInt64).toInt32).toInt8.toInt32))) 5 (.int ((((v64.toUInt64 >>> ((16 : Int32) &&& 0x3f).toInt64.toUInt64).toInt64).toInt32).toInt8.toInt32))) (.int (0 : Int32)) := Arv.set Ar11 q11 S11 N11 H11 G11 (fits_nar_byte _) W12 5 rfl (by simp only [List.length_set, hl]; decide)
  refine own_st (fun u_ k_ => st12 u_ k_) ?_
  show own_Go p e below _ (T12.setTop (mkF m 64 #[.val (.ref b), .val (.int (0 : Int32)), .val (.long v64), .second] []))
  refine own_st (fun u_ k_ => XS.aloadN X12.here hx rfl (hb hby own_d_method_3_64) rfl rfl k_) ?_
  show own_Go p e below _ (T12.setTop (mkF m 65 #[.val (.ref b), .val (.int (0 : Int32)), .val (.long v64), .second] [(.ref b)]))
  refine own_st (fun u_ k_ => XS.iloadN X12.here hx rfl (hb hby own_d_method_3_65) rfl k_) ?_
  show own_Go p e below _ (T12.setTop (mkF m 66 #[.val (.ref b), .val (.int (0 : Int32)), .val (.long v64), .second] [(.int (0 : Int32)), (.ref b)]))
  refine own_st (fun u_ k_ => XS.bipush X12.here hx rfl (hb hby own_d_method_3_66) k_) ?_
  show own_Go p e below _ (T12.setTop (mkF m 68 #[.val (.ref b), .val (.int (0 : Int32)), .val (.long v64), .second] [(.int (6 : Int32)), (.int (0 : Int32)), (.ref b)]))
  refine own_st (fun u_ k_ => XS.iadd X12.here hx rfl (hb hby own_d_method_3_68) rfl k_) ?_
  show own_Go p e below _ (T12.setTop (mkF m 69 #[.val (.ref b), .val (.int (0 : Int32)), .val (.long v64), .second] [(.int (6 : Int32)), (.ref b)]))
  refine own_st (fun u_ k_ => XS.lloadN X12.here hx rfl (hb hby own_d_method_3_69) rfl k_) ?_
  show own_Go p e below _ (T12.setTop (mkF m 70 #[.val (.ref b), .val (.int (0 : Int32)), .val (.long v64), .second] [(.long v64), (.int (6 : Int32)), (.ref b)]))
  refine own_st (fun u_ k_ => XS.bipush X12.here hx rfl (hb hby own_d_method_3_70) k_) ?_
  show own_Go p e below _ (T12.setTop (mkF m 72 #[.val (.ref b), .val (.int (0 : Int32)), .val (.long v64), .second] [(.int (8 : Int32)), (.long v64), (.int (6 : Int32)), (.ref b)]))
  refine own_st (fun u_ k_ => XS.lushr X12.here hx rfl (hb hby own_d_method_3_72) rfl k_) ?_
  show own_Go p e below _ (T12.setTop (mkF m 73 #[.val (.ref b), .val (.int (0 : Int32)), .val (.long v64), .second] [(.long ((v64.toUInt64 >>> ((8 : Int32) &&& 0x3f).toInt64.toUInt64).toInt64)), (.int (6 : Int32)), (.ref b)]))
  refine own_st (fun u_ k_ => XS.l2i X12.here hx rfl (hb hby own_d_method_3_73) rfl k_) ?_
  show own_Go p e below _ (T12.setTop (mkF m 74 #[.val (.ref b), .val (.int (0 : Int32)), .val (.long v64), .second] [(.int (((v64.toUInt64 >>> ((8 : Int32) &&& 0x3f).toInt64.toUInt64).toInt64).toInt32)), (.int (6 : Int32)), (.ref b)]))
  refine own_st (fun u_ k_ => XS.i2b X12.here hx rfl (hb hby own_d_method_3_74) rfl k_) ?_
  show own_Go p e below _ (T12.setTop (mkF m 75 #[.val (.ref b), .val (.int (0 : Int32)), .val (.long v64), .second] [(.int ((((v64.toUInt64 >>> ((8 : Int32) &&& 0x3f).toInt64.toUInt64).toInt64).toInt32).toInt8.toInt32)), (.int (6 : Int32)), (.ref b)]))
  obtain ⟨cl13, Ar13, q13, S13, N13, H13, G13⟩ := id V12
  have hi13 : ¬ ((6 : Int32) < 0 ∨ cl13.slots.size ≤ ((6 : Int32)).toNatClampNeg) := inb_of S13 ⟨by decide, own_lt37 hn (by decide)⟩
  obtain ⟨T14, h14, X14, e14, W14, st14⟩ := stB X12 hx hZ e12 Ar13 (j := (6 : Int32)) hi13 (g := (mkF m 75 #[.val (.ref b), .val (.int (0 : Int32)), .val (.long v64), .second] [(.int ((((v64.toUInt64 >>> ((8 : Int32) &&& 0x3f).toInt64.toUInt64).toInt64).toInt32).toInt8.toInt32)), (.int (6 : Int32)), (.ref b)])) rfl rfl (hb hby own_d_method_3_75)
  rw [own_bb] at W14
  have N14 := Fr.snoc X14 N12 gb
  have V14 : Arv Z h14 b kb .byte n (List.set (List.set (List.set (List.set (List.set (List.set (List.set vs 0 (.int ((((v64.toUInt64 >>> ((56 : Int32) &&& 0x3f).toInt64.toUInt64).toInt64).toInt32).toInt8.toInt32))) 1 (.int ((((v64.toUInt64 >>> ((48 : Int32) &&& 0x3f).toInt64.toUInt64).toInt64).toInt32).toInt8.toInt32))) 2 (.int ((((v64.toUInt64 >>> ((40 : Int32) &&& 0x3f).toInt64.toUInt64).toInt64).toInt32).toInt8.toInt32))) 3 (.int ((((v64.toUInt64 >>> ((32 : Int32) &&& 0x3f).toInt64.toUInt64).toInt64).toInt32).toInt8.toInt32))) 4 (.int ((((v64.toUInt64 >>> ((24 : Int32) &&& 0x3f).toInt64.toUInt64).toInt64).toInt32).toInt8.toInt32))) 5 (.int ((((v64.toUInt64 >>> ((16 : Int32) &&& 0x3f).toInt64.toUInt64).toInt64).toInt32).toInt8.toInt32))) 6 (.int ((((v64.toUInt64 >>> ((8 : Int32) &&& 0x3f).toInt64.toUInt64).toInt64).toInt32).toInt8.toInt32))) (.int (0 : Int32)) := Arv.set Ar13 q13 S13 N13 H13 G13 (fits_nar_byte _) W14 6 rfl (by simp only [List.length_set, hl]; decide)
  refine own_st (fun u_ k_ => st14 u_ k_) ?_
  show own_Go p e below _ (T14.setTop (mkF m 76 #[.val (.ref b), .val (.int (0 : Int32)), .val (.long v64), .second] []))
  refine own_st (fun u_ k_ => XS.aloadN X14.here hx rfl (hb hby own_d_method_3_76) rfl rfl k_) ?_
  show own_Go p e below _ (T14.setTop (mkF m 77 #[.val (.ref b), .val (.int (0 : Int32)), .val (.long v64), .second] [(.ref b)]))
  refine own_st (fun u_ k_ => XS.iloadN X14.here hx rfl (hb hby own_d_method_3_77) rfl k_) ?_
  show own_Go p e below _ (T14.setTop (mkF m 78 #[.val (.ref b), .val (.int (0 : Int32)), .val (.long v64), .second] [(.int (0 : Int32)), (.ref b)]))
  refine own_st (fun u_ k_ => XS.bipush X14.here hx rfl (hb hby own_d_method_3_78) k_) ?_
  show own_Go p e below _ (T14.setTop (mkF m 80 #[.val (.ref b), .val (.int (0 : Int32)), .val (.long v64), .second] [(.int (7 : Int32)), (.int (0 : Int32)), (.ref b)]))
  refine own_st (fun u_ k_ => XS.iadd X14.here hx rfl (hb hby own_d_method_3_80) rfl k_) ?_
  show own_Go p e below _ (T14.setTop (mkF m 81 #[.val (.ref b), .val (.int (0 : Int32)), .val (.long v64), .second] [(.int (7 : Int32)), (.ref b)]))
  refine own_st (fun u_ k_ => XS.lloadN X14.here hx rfl (hb hby own_d_method_3_81) rfl k_) ?_
  show own_Go p e below _ (T14.setTop (mkF m 82 #[.val (.ref b), .val (.int (0 : Int32)), .val (.long v64), .second] [(.long v64), (.int (7 : Int32)), (.ref b)]))
  refine own_st (fun u_ k_ => XS.l2i X14.here hx rfl (hb hby own_d_method_3_82) rfl k_) ?_
  show own_Go p e below _ (T14.setTop (mkF m 83 #[.val (.ref b), .val (.int (0 : Int32)), .val (.long v64), .second] [(.int (v64.toInt32)), (.int (7 : Int32)), (.ref b)]))
  refine own_st (fun u_ k_ => XS.i2b X14.here hx rfl (hb hby own_d_method_3_83) rfl k_) ?_
  show own_Go p e below _ (T14.setTop (mkF m 84 #[.val (.ref b), .val (.int (0 : Int32)), .val (.long v64), .second] [(.int ((v64.toInt32).toInt8.toInt32)), (.int (7 : Int32)), (.ref b)]))
  obtain ⟨cl15, Ar15, q15, S15, N15, H15, G15⟩ := id V14
  have hi15 : ¬ ((7 : Int32) < 0 ∨ cl15.slots.size ≤ ((7 : Int32)).toNatClampNeg) := inb_of S15 ⟨by decide, own_lt37 hn (by decide)⟩
  obtain ⟨T16, h16, X16, e16, W16, st16⟩ := stB X14 hx hZ e14 Ar15 (j := (7 : Int32)) hi15 (g := (mkF m 84 #[.val (.ref b), .val (.int (0 : Int32)), .val (.long v64), .second] [(.int ((v64.toInt32).toInt8.toInt32)), (.int (7 : Int32)), (.ref b)])) rfl rfl (hb hby own_d_method_3_84)
  rw [own_bb] at W16
  have N16 := Fr.snoc X16 N14 gb
  have V16 : Arv Z h16 b kb .byte n (List.set (List.set (List.set (List.set (List.set (List.set (List.set (List.set vs 0 (.int ((((v64.toUInt64 >>> ((56 : Int32) &&& 0x3f).toInt64.toUInt64).toInt64).toInt32).toInt8.toInt32))) 1 (.int ((((v64.toUInt64 >>> ((48 : Int32) &&& 0x3f).toInt64.toUInt64).toInt64).toInt32).toInt8.toInt32))) 2 (.int ((((v64.toUInt64 >>> ((40 : Int32) &&& 0x3f).toInt64.toUInt64).toInt64).toInt32).toInt8.toInt32))) 3 (.int ((((v64.toUInt64 >>> ((32 : Int32) &&& 0x3f).toInt64.toUInt64).toInt64).toInt32).toInt8.toInt32))) 4 (.int ((((v64.toUInt64 >>> ((24 : Int32) &&& 0x3f).toInt64.toUInt64).toInt64).toInt32).toInt8.toInt32))) 5 (.int ((((v64.toUInt64 >>> ((16 : Int32) &&& 0x3f).toInt64.toUInt64).toInt64).toInt32).toInt8.toInt32))) 6 (.int ((((v64.toUInt64 >>> ((8 : Int32) &&& 0x3f).toInt64.toUInt64).toInt64).toInt32).toInt8.toInt32))) 7 (.int ((v64.toInt32).toInt8.toInt32))) (.int (0 : Int32)) := Arv.set Ar15 q15 S15 N15 H15 G15 (fits_nar_byte _) W16 7 rfl (by simp only [List.length_set, hl]; decide)
  refine own_st (fun u_ k_ => st16 u_ k_) ?_
  show own_Go p e below _ (T16.setTop (mkF m 85 #[.val (.ref b), .val (.int (0 : Int32)), .val (.long v64), .second] []))
  have K17 : Keep h0 h2 [b] := (Keep.refl h0 [b]).wr W2 (Or.inl (List.mem_of_getElem? (i := 0) rfl))
  have K18 : Keep h0 h4 [b] := K17.wr W4 (Or.inl (List.mem_of_getElem? (i := 0) rfl))
  have K19 : Keep h0 h6 [b] := K18.wr W6 (Or.inl (List.mem_of_getElem? (i := 0) rfl))
  have K20 : Keep h0 h8 [b] := K19.wr W8 (Or.inl (List.mem_of_getElem? (i := 0) rfl))
  have K21 : Keep h0 h10 [b] := K20.wr W10 (Or.inl (List.mem_of_getElem? (i := 0) rfl))
  have K22 : Keep h0 h12 [b] := K21.wr W12 (Or.inl (List.mem_of_getElem? (i := 0) rfl))
  have K23 : Keep h0 h14 [b] := K22.wr W14 (Or.inl (List.mem_of_getElem? (i := 0) rfl))
  have K24 : Keep h0 h16 [b] := K23.wr W16 (Or.inl (List.mem_of_getElem? (i := 0) rfl))
  exact own_retV X16 hx hlk hret (hb hby own_d_method_3_85) (by decide) (by decide) (show QrmP0 Z we b kb n vs v64 h0 n0 none T16.heap _ from (by rw [e16]; exact ⟨rfl, N16, K24, V16⟩))
theorem own_ef_rmP8 (m : MethodId) (b : Addr) (n : Int32) (v64 : Int64)  : entryFrame m #[(.ref b), (.int (8 : Int32)), (.long v64)] 4 = mkF m 0 #[.val (.ref b), .val (.int (8 : Int32)), .val (.long v64), .second] [] := by first | (simp [entryFrame, mkF, argsToLocals, Value.category, maxLocals]; done) | rfl
def QrmP8 (Z : State) (we : Addr) (b : Addr) (kb : ClassId) (n : Int32) (vs : List Value) (v64 : Int64) (h0 : Heap) (n0 : Nat) (v : Option Value) (h : Heap) (L : List Loc) : Prop := v = none ∧ Fr n0 L ∧ Keep h0 h [b] ∧ Arv Z h b kb .byte n (own_put 8 vs (.int ((((v64.toUInt64 >>> ((56 : Int32) &&& 0x3f).toInt64.toUInt64).toInt64).toInt32).toInt8.toInt32)) (.int ((((v64.toUInt64 >>> ((48 : Int32) &&& 0x3f).toInt64.toUInt64).toInt64).toInt32).toInt8.toInt32)) (.int ((((v64.toUInt64 >>> ((40 : Int32) &&& 0x3f).toInt64.toUInt64).toInt64).toInt32).toInt8.toInt32)) (.int ((((v64.toUInt64 >>> ((32 : Int32) &&& 0x3f).toInt64.toUInt64).toInt64).toInt32).toInt8.toInt32)) (.int ((((v64.toUInt64 >>> ((24 : Int32) &&& 0x3f).toInt64.toUInt64).toInt64).toInt32).toInt8.toInt32)) (.int ((((v64.toUInt64 >>> ((16 : Int32) &&& 0x3f).toInt64.toUInt64).toInt64).toInt32).toInt8.toInt32)) (.int ((((v64.toUInt64 >>> ((8 : Int32) &&& 0x3f).toInt64.toUInt64).toInt64).toInt32).toInt8.toInt32)) (.int ((v64.toInt32).toInt8.toInt32))) (.int (0 : Int32))
set_option maxRecDepth 65536 in
set_option maxHeartbeats 40000000 in
theorem rmP8 (l : Launch) (Z : State) (a0 : Array Value) (hw : own_H a0 Z) (ws : List Jvm.Cond) (we : Addr) (hS : own_S Z we) (b : Addr) (kb : ClassId) (n : Int32) (vs : List Value) (v64 : Int64) (h0 : Heap) (n0 : Nat) (O0 : Old Z n0 h0) (V : Arv Z h0 b kb .byte n vs (.int (0 : Int32))) (gb : n0 ≤ b) (hl : vs.length = 64) (hn : ¬ n < (37 : Int32)) :
    own_Met l own_y_77 method_3_code 4 none ws ({ frames := 0, cells := 0, slots := 0, locals := 0 } : Room) Z h0 #[(.ref b), (.int (8 : Int32)), (.long v64)] (QrmP8 Z we b kb n vs v64 h0 n0) := by
  refine own_body (plainFor_of_name own_pn_78) ?_
  intro p e s m below meth c s₁ hx hby hml hown hnm hret hlk hZ e0 X0
  have N0 := Fr.nil n0
  refine own_st (fun u_ k_ => castTop (own_ef_rmP8 m b n v64) k_) ?_
  show own_Go p e below _ (s₁.setTop (mkF m 0 #[.val (.ref b), .val (.int (8 : Int32)), .val (.long v64), .second] []))
  refine own_st (fun u_ k_ => XS.aloadN X0.here hx rfl (hb hby own_d_method_3_0) rfl rfl k_) ?_
  show own_Go p e below _ (s₁.setTop (mkF m 1 #[.val (.ref b), .val (.int (8 : Int32)), .val (.long v64), .second] [(.ref b)]))
  refine own_st (fun u_ k_ => XS.iloadN X0.here hx rfl (hb hby own_d_method_3_1) rfl k_) ?_
  show own_Go p e below _ (s₁.setTop (mkF m 2 #[.val (.ref b), .val (.int (8 : Int32)), .val (.long v64), .second] [(.int (8 : Int32)), (.ref b)]))
  refine own_st (fun u_ k_ => XS.lloadN X0.here hx rfl (hb hby own_d_method_3_2) rfl k_) ?_
  show own_Go p e below _ (s₁.setTop (mkF m 3 #[.val (.ref b), .val (.int (8 : Int32)), .val (.long v64), .second] [(.long v64), (.int (8 : Int32)), (.ref b)]))
  refine own_st (fun u_ k_ => XS.bipush X0.here hx rfl (hb hby own_d_method_3_3) k_) ?_
  show own_Go p e below _ (s₁.setTop (mkF m 5 #[.val (.ref b), .val (.int (8 : Int32)), .val (.long v64), .second] [(.int (56 : Int32)), (.long v64), (.int (8 : Int32)), (.ref b)]))
  refine own_st (fun u_ k_ => XS.lushr X0.here hx rfl (hb hby own_d_method_3_5) rfl k_) ?_
  show own_Go p e below _ (s₁.setTop (mkF m 6 #[.val (.ref b), .val (.int (8 : Int32)), .val (.long v64), .second] [(.long ((v64.toUInt64 >>> ((56 : Int32) &&& 0x3f).toInt64.toUInt64).toInt64)), (.int (8 : Int32)), (.ref b)]))
  refine own_st (fun u_ k_ => XS.l2i X0.here hx rfl (hb hby own_d_method_3_6) rfl k_) ?_
  show own_Go p e below _ (s₁.setTop (mkF m 7 #[.val (.ref b), .val (.int (8 : Int32)), .val (.long v64), .second] [(.int (((v64.toUInt64 >>> ((56 : Int32) &&& 0x3f).toInt64.toUInt64).toInt64).toInt32)), (.int (8 : Int32)), (.ref b)]))
  refine own_st (fun u_ k_ => XS.i2b X0.here hx rfl (hb hby own_d_method_3_7) rfl k_) ?_
  show own_Go p e below _ (s₁.setTop (mkF m 8 #[.val (.ref b), .val (.int (8 : Int32)), .val (.long v64), .second] [(.int ((((v64.toUInt64 >>> ((56 : Int32) &&& 0x3f).toInt64.toUInt64).toInt64).toInt32).toInt8.toInt32)), (.int (8 : Int32)), (.ref b)]))
  obtain ⟨cl25, Ar25, q25, S25, N25, H25, G25⟩ := id V
  have hi25 : ¬ ((8 : Int32) < 0 ∨ cl25.slots.size ≤ ((8 : Int32)).toNatClampNeg) := inb_of S25 ⟨by decide, own_lt37 hn (by decide)⟩
  obtain ⟨T26, h26, X26, e26, W26, st26⟩ := stB X0 hx hZ e0 Ar25 (j := (8 : Int32)) hi25 (g := (mkF m 8 #[.val (.ref b), .val (.int (8 : Int32)), .val (.long v64), .second] [(.int ((((v64.toUInt64 >>> ((56 : Int32) &&& 0x3f).toInt64.toUInt64).toInt64).toInt32).toInt8.toInt32)), (.int (8 : Int32)), (.ref b)])) rfl rfl (hb hby own_d_method_3_8)
  rw [own_bb] at W26
  have N26 := Fr.snoc X26 N0 gb
  have V26 : Arv Z h26 b kb .byte n (List.set vs 8 (.int ((((v64.toUInt64 >>> ((56 : Int32) &&& 0x3f).toInt64.toUInt64).toInt64).toInt32).toInt8.toInt32))) (.int (0 : Int32)) := Arv.set Ar25 q25 S25 N25 H25 G25 (fits_nar_byte _) W26 8 rfl (by simp only [List.length_set, hl]; decide)
  refine own_st (fun u_ k_ => st26 u_ k_) ?_
  show own_Go p e below _ (T26.setTop (mkF m 9 #[.val (.ref b), .val (.int (8 : Int32)), .val (.long v64), .second] []))
  refine own_st (fun u_ k_ => XS.aloadN X26.here hx rfl (hb hby own_d_method_3_9) rfl rfl k_) ?_
  show own_Go p e below _ (T26.setTop (mkF m 10 #[.val (.ref b), .val (.int (8 : Int32)), .val (.long v64), .second] [(.ref b)]))
  refine own_st (fun u_ k_ => XS.iloadN X26.here hx rfl (hb hby own_d_method_3_10) rfl k_) ?_
  show own_Go p e below _ (T26.setTop (mkF m 11 #[.val (.ref b), .val (.int (8 : Int32)), .val (.long v64), .second] [(.int (8 : Int32)), (.ref b)]))
  refine own_st (fun u_ k_ => XS.iconst X26.here hx rfl (hb hby own_d_method_3_11) k_) ?_
  show own_Go p e below _ (T26.setTop (mkF m 12 #[.val (.ref b), .val (.int (8 : Int32)), .val (.long v64), .second] [(.int (1 : Int32)), (.int (8 : Int32)), (.ref b)]))
  refine own_st (fun u_ k_ => XS.iadd X26.here hx rfl (hb hby own_d_method_3_12) rfl k_) ?_
  show own_Go p e below _ (T26.setTop (mkF m 13 #[.val (.ref b), .val (.int (8 : Int32)), .val (.long v64), .second] [(.int (9 : Int32)), (.ref b)]))
  refine own_st (fun u_ k_ => XS.lloadN X26.here hx rfl (hb hby own_d_method_3_13) rfl k_) ?_
  show own_Go p e below _ (T26.setTop (mkF m 14 #[.val (.ref b), .val (.int (8 : Int32)), .val (.long v64), .second] [(.long v64), (.int (9 : Int32)), (.ref b)]))
  refine own_st (fun u_ k_ => XS.bipush X26.here hx rfl (hb hby own_d_method_3_14) k_) ?_
  show own_Go p e below _ (T26.setTop (mkF m 16 #[.val (.ref b), .val (.int (8 : Int32)), .val (.long v64), .second] [(.int (48 : Int32)), (.long v64), (.int (9 : Int32)), (.ref b)]))
  refine own_st (fun u_ k_ => XS.lushr X26.here hx rfl (hb hby own_d_method_3_16) rfl k_) ?_
  show own_Go p e below _ (T26.setTop (mkF m 17 #[.val (.ref b), .val (.int (8 : Int32)), .val (.long v64), .second] [(.long ((v64.toUInt64 >>> ((48 : Int32) &&& 0x3f).toInt64.toUInt64).toInt64)), (.int (9 : Int32)), (.ref b)]))
  refine own_st (fun u_ k_ => XS.l2i X26.here hx rfl (hb hby own_d_method_3_17) rfl k_) ?_
  show own_Go p e below _ (T26.setTop (mkF m 18 #[.val (.ref b), .val (.int (8 : Int32)), .val (.long v64), .second] [(.int (((v64.toUInt64 >>> ((48 : Int32) &&& 0x3f).toInt64.toUInt64).toInt64).toInt32)), (.int (9 : Int32)), (.ref b)]))
  refine own_st (fun u_ k_ => XS.i2b X26.here hx rfl (hb hby own_d_method_3_18) rfl k_) ?_
  show own_Go p e below _ (T26.setTop (mkF m 19 #[.val (.ref b), .val (.int (8 : Int32)), .val (.long v64), .second] [(.int ((((v64.toUInt64 >>> ((48 : Int32) &&& 0x3f).toInt64.toUInt64).toInt64).toInt32).toInt8.toInt32)), (.int (9 : Int32)), (.ref b)]))
  obtain ⟨cl27, Ar27, q27, S27, N27, H27, G27⟩ := id V26
  have hi27 : ¬ ((9 : Int32) < 0 ∨ cl27.slots.size ≤ ((9 : Int32)).toNatClampNeg) := inb_of S27 ⟨by decide, own_lt37 hn (by decide)⟩
  obtain ⟨T28, h28, X28, e28, W28, st28⟩ := stB X26 hx hZ e26 Ar27 (j := (9 : Int32)) hi27 (g := (mkF m 19 #[.val (.ref b), .val (.int (8 : Int32)), .val (.long v64), .second] [(.int ((((v64.toUInt64 >>> ((48 : Int32) &&& 0x3f).toInt64.toUInt64).toInt64).toInt32).toInt8.toInt32)), (.int (9 : Int32)), (.ref b)])) rfl rfl (hb hby own_d_method_3_19)
  rw [own_bb] at W28
  have N28 := Fr.snoc X28 N26 gb
  have V28 : Arv Z h28 b kb .byte n (List.set (List.set vs 8 (.int ((((v64.toUInt64 >>> ((56 : Int32) &&& 0x3f).toInt64.toUInt64).toInt64).toInt32).toInt8.toInt32))) 9 (.int ((((v64.toUInt64 >>> ((48 : Int32) &&& 0x3f).toInt64.toUInt64).toInt64).toInt32).toInt8.toInt32))) (.int (0 : Int32)) := Arv.set Ar27 q27 S27 N27 H27 G27 (fits_nar_byte _) W28 9 rfl (by simp only [List.length_set, hl]; decide)
  refine own_st (fun u_ k_ => st28 u_ k_) ?_
  show own_Go p e below _ (T28.setTop (mkF m 20 #[.val (.ref b), .val (.int (8 : Int32)), .val (.long v64), .second] []))
  refine own_st (fun u_ k_ => XS.aloadN X28.here hx rfl (hb hby own_d_method_3_20) rfl rfl k_) ?_
  show own_Go p e below _ (T28.setTop (mkF m 21 #[.val (.ref b), .val (.int (8 : Int32)), .val (.long v64), .second] [(.ref b)]))
  refine own_st (fun u_ k_ => XS.iloadN X28.here hx rfl (hb hby own_d_method_3_21) rfl k_) ?_
  show own_Go p e below _ (T28.setTop (mkF m 22 #[.val (.ref b), .val (.int (8 : Int32)), .val (.long v64), .second] [(.int (8 : Int32)), (.ref b)]))
  refine own_st (fun u_ k_ => XS.iconst X28.here hx rfl (hb hby own_d_method_3_22) k_) ?_
  show own_Go p e below _ (T28.setTop (mkF m 23 #[.val (.ref b), .val (.int (8 : Int32)), .val (.long v64), .second] [(.int (2 : Int32)), (.int (8 : Int32)), (.ref b)]))
  refine own_st (fun u_ k_ => XS.iadd X28.here hx rfl (hb hby own_d_method_3_23) rfl k_) ?_
  show own_Go p e below _ (T28.setTop (mkF m 24 #[.val (.ref b), .val (.int (8 : Int32)), .val (.long v64), .second] [(.int (10 : Int32)), (.ref b)]))
  refine own_st (fun u_ k_ => XS.lloadN X28.here hx rfl (hb hby own_d_method_3_24) rfl k_) ?_
  show own_Go p e below _ (T28.setTop (mkF m 25 #[.val (.ref b), .val (.int (8 : Int32)), .val (.long v64), .second] [(.long v64), (.int (10 : Int32)), (.ref b)]))
  refine own_st (fun u_ k_ => XS.bipush X28.here hx rfl (hb hby own_d_method_3_25) k_) ?_
  show own_Go p e below _ (T28.setTop (mkF m 27 #[.val (.ref b), .val (.int (8 : Int32)), .val (.long v64), .second] [(.int (40 : Int32)), (.long v64), (.int (10 : Int32)), (.ref b)]))
  refine own_st (fun u_ k_ => XS.lushr X28.here hx rfl (hb hby own_d_method_3_27) rfl k_) ?_
  show own_Go p e below _ (T28.setTop (mkF m 28 #[.val (.ref b), .val (.int (8 : Int32)), .val (.long v64), .second] [(.long ((v64.toUInt64 >>> ((40 : Int32) &&& 0x3f).toInt64.toUInt64).toInt64)), (.int (10 : Int32)), (.ref b)]))
  refine own_st (fun u_ k_ => XS.l2i X28.here hx rfl (hb hby own_d_method_3_28) rfl k_) ?_
  show own_Go p e below _ (T28.setTop (mkF m 29 #[.val (.ref b), .val (.int (8 : Int32)), .val (.long v64), .second] [(.int (((v64.toUInt64 >>> ((40 : Int32) &&& 0x3f).toInt64.toUInt64).toInt64).toInt32)), (.int (10 : Int32)), (.ref b)]))
  refine own_st (fun u_ k_ => XS.i2b X28.here hx rfl (hb hby own_d_method_3_29) rfl k_) ?_
  show own_Go p e below _ (T28.setTop (mkF m 30 #[.val (.ref b), .val (.int (8 : Int32)), .val (.long v64), .second] [(.int ((((v64.toUInt64 >>> ((40 : Int32) &&& 0x3f).toInt64.toUInt64).toInt64).toInt32).toInt8.toInt32)), (.int (10 : Int32)), (.ref b)]))
  obtain ⟨cl29, Ar29, q29, S29, N29, H29, G29⟩ := id V28
  have hi29 : ¬ ((10 : Int32) < 0 ∨ cl29.slots.size ≤ ((10 : Int32)).toNatClampNeg) := inb_of S29 ⟨by decide, own_lt37 hn (by decide)⟩
  obtain ⟨T30, h30, X30, e30, W30, st30⟩ := stB X28 hx hZ e28 Ar29 (j := (10 : Int32)) hi29 (g := (mkF m 30 #[.val (.ref b), .val (.int (8 : Int32)), .val (.long v64), .second] [(.int ((((v64.toUInt64 >>> ((40 : Int32) &&& 0x3f).toInt64.toUInt64).toInt64).toInt32).toInt8.toInt32)), (.int (10 : Int32)), (.ref b)])) rfl rfl (hb hby own_d_method_3_30)
  rw [own_bb] at W30
  have N30 := Fr.snoc X30 N28 gb
  have V30 : Arv Z h30 b kb .byte n (List.set (List.set (List.set vs 8 (.int ((((v64.toUInt64 >>> ((56 : Int32) &&& 0x3f).toInt64.toUInt64).toInt64).toInt32).toInt8.toInt32))) 9 (.int ((((v64.toUInt64 >>> ((48 : Int32) &&& 0x3f).toInt64.toUInt64).toInt64).toInt32).toInt8.toInt32))) 10 (.int ((((v64.toUInt64 >>> ((40 : Int32) &&& 0x3f).toInt64.toUInt64).toInt64).toInt32).toInt8.toInt32))) (.int (0 : Int32)) := Arv.set Ar29 q29 S29 N29 H29 G29 (fits_nar_byte _) W30 10 rfl (by simp only [List.length_set, hl]; decide)
  refine own_st (fun u_ k_ => st30 u_ k_) ?_
  show own_Go p e below _ (T30.setTop (mkF m 31 #[.val (.ref b), .val (.int (8 : Int32)), .val (.long v64), .second] []))
  refine own_st (fun u_ k_ => XS.aloadN X30.here hx rfl (hb hby own_d_method_3_31) rfl rfl k_) ?_
  show own_Go p e below _ (T30.setTop (mkF m 32 #[.val (.ref b), .val (.int (8 : Int32)), .val (.long v64), .second] [(.ref b)]))
  refine own_st (fun u_ k_ => XS.iloadN X30.here hx rfl (hb hby own_d_method_3_32) rfl k_) ?_
  show own_Go p e below _ (T30.setTop (mkF m 33 #[.val (.ref b), .val (.int (8 : Int32)), .val (.long v64), .second] [(.int (8 : Int32)), (.ref b)]))
  refine own_st (fun u_ k_ => XS.iconst X30.here hx rfl (hb hby own_d_method_3_33) k_) ?_
  show own_Go p e below _ (T30.setTop (mkF m 34 #[.val (.ref b), .val (.int (8 : Int32)), .val (.long v64), .second] [(.int (3 : Int32)), (.int (8 : Int32)), (.ref b)]))
  refine own_st (fun u_ k_ => XS.iadd X30.here hx rfl (hb hby own_d_method_3_34) rfl k_) ?_
  show own_Go p e below _ (T30.setTop (mkF m 35 #[.val (.ref b), .val (.int (8 : Int32)), .val (.long v64), .second] [(.int (11 : Int32)), (.ref b)]))
  refine own_st (fun u_ k_ => XS.lloadN X30.here hx rfl (hb hby own_d_method_3_35) rfl k_) ?_
  show own_Go p e below _ (T30.setTop (mkF m 36 #[.val (.ref b), .val (.int (8 : Int32)), .val (.long v64), .second] [(.long v64), (.int (11 : Int32)), (.ref b)]))
  refine own_st (fun u_ k_ => XS.bipush X30.here hx rfl (hb hby own_d_method_3_36) k_) ?_
  show own_Go p e below _ (T30.setTop (mkF m 38 #[.val (.ref b), .val (.int (8 : Int32)), .val (.long v64), .second] [(.int (32 : Int32)), (.long v64), (.int (11 : Int32)), (.ref b)]))
  refine own_st (fun u_ k_ => XS.lushr X30.here hx rfl (hb hby own_d_method_3_38) rfl k_) ?_
  show own_Go p e below _ (T30.setTop (mkF m 39 #[.val (.ref b), .val (.int (8 : Int32)), .val (.long v64), .second] [(.long ((v64.toUInt64 >>> ((32 : Int32) &&& 0x3f).toInt64.toUInt64).toInt64)), (.int (11 : Int32)), (.ref b)]))
  refine own_st (fun u_ k_ => XS.l2i X30.here hx rfl (hb hby own_d_method_3_39) rfl k_) ?_
  show own_Go p e below _ (T30.setTop (mkF m 40 #[.val (.ref b), .val (.int (8 : Int32)), .val (.long v64), .second] [(.int (((v64.toUInt64 >>> ((32 : Int32) &&& 0x3f).toInt64.toUInt64).toInt64).toInt32)), (.int (11 : Int32)), (.ref b)]))
  refine own_st (fun u_ k_ => XS.i2b X30.here hx rfl (hb hby own_d_method_3_40) rfl k_) ?_
  show own_Go p e below _ (T30.setTop (mkF m 41 #[.val (.ref b), .val (.int (8 : Int32)), .val (.long v64), .second] [(.int ((((v64.toUInt64 >>> ((32 : Int32) &&& 0x3f).toInt64.toUInt64).toInt64).toInt32).toInt8.toInt32)), (.int (11 : Int32)), (.ref b)]))
  obtain ⟨cl31, Ar31, q31, S31, N31, H31, G31⟩ := id V30
  have hi31 : ¬ ((11 : Int32) < 0 ∨ cl31.slots.size ≤ ((11 : Int32)).toNatClampNeg) := inb_of S31 ⟨by decide, own_lt37 hn (by decide)⟩
  obtain ⟨T32, h32, X32, e32, W32, st32⟩ := stB X30 hx hZ e30 Ar31 (j := (11 : Int32)) hi31 (g := (mkF m 41 #[.val (.ref b), .val (.int (8 : Int32)), .val (.long v64), .second] [(.int ((((v64.toUInt64 >>> ((32 : Int32) &&& 0x3f).toInt64.toUInt64).toInt64).toInt32).toInt8.toInt32)), (.int (11 : Int32)), (.ref b)])) rfl rfl (hb hby own_d_method_3_41)
  rw [own_bb] at W32
  have N32 := Fr.snoc X32 N30 gb
  have V32 : Arv Z h32 b kb .byte n (List.set (List.set (List.set (List.set vs 8 (.int ((((v64.toUInt64 >>> ((56 : Int32) &&& 0x3f).toInt64.toUInt64).toInt64).toInt32).toInt8.toInt32))) 9 (.int ((((v64.toUInt64 >>> ((48 : Int32) &&& 0x3f).toInt64.toUInt64).toInt64).toInt32).toInt8.toInt32))) 10 (.int ((((v64.toUInt64 >>> ((40 : Int32) &&& 0x3f).toInt64.toUInt64).toInt64).toInt32).toInt8.toInt32))) 11 (.int ((((v64.toUInt64 >>> ((32 : Int32) &&& 0x3f).toInt64.toUInt64).toInt64).toInt32).toInt8.toInt32))) (.int (0 : Int32)) := Arv.set Ar31 q31 S31 N31 H31 G31 (fits_nar_byte _) W32 11 rfl (by simp only [List.length_set, hl]; decide)
  refine own_st (fun u_ k_ => st32 u_ k_) ?_
  show own_Go p e below _ (T32.setTop (mkF m 42 #[.val (.ref b), .val (.int (8 : Int32)), .val (.long v64), .second] []))
  refine own_st (fun u_ k_ => XS.aloadN X32.here hx rfl (hb hby own_d_method_3_42) rfl rfl k_) ?_
  show own_Go p e below _ (T32.setTop (mkF m 43 #[.val (.ref b), .val (.int (8 : Int32)), .val (.long v64), .second] [(.ref b)]))
  refine own_st (fun u_ k_ => XS.iloadN X32.here hx rfl (hb hby own_d_method_3_43) rfl k_) ?_
  show own_Go p e below _ (T32.setTop (mkF m 44 #[.val (.ref b), .val (.int (8 : Int32)), .val (.long v64), .second] [(.int (8 : Int32)), (.ref b)]))
  refine own_st (fun u_ k_ => XS.iconst X32.here hx rfl (hb hby own_d_method_3_44) k_) ?_
  show own_Go p e below _ (T32.setTop (mkF m 45 #[.val (.ref b), .val (.int (8 : Int32)), .val (.long v64), .second] [(.int (4 : Int32)), (.int (8 : Int32)), (.ref b)]))
  refine own_st (fun u_ k_ => XS.iadd X32.here hx rfl (hb hby own_d_method_3_45) rfl k_) ?_
  show own_Go p e below _ (T32.setTop (mkF m 46 #[.val (.ref b), .val (.int (8 : Int32)), .val (.long v64), .second] [(.int (12 : Int32)), (.ref b)]))
  refine own_st (fun u_ k_ => XS.lloadN X32.here hx rfl (hb hby own_d_method_3_46) rfl k_) ?_
  show own_Go p e below _ (T32.setTop (mkF m 47 #[.val (.ref b), .val (.int (8 : Int32)), .val (.long v64), .second] [(.long v64), (.int (12 : Int32)), (.ref b)]))
  refine own_st (fun u_ k_ => XS.bipush X32.here hx rfl (hb hby own_d_method_3_47) k_) ?_
  show own_Go p e below _ (T32.setTop (mkF m 49 #[.val (.ref b), .val (.int (8 : Int32)), .val (.long v64), .second] [(.int (24 : Int32)), (.long v64), (.int (12 : Int32)), (.ref b)]))
  refine own_st (fun u_ k_ => XS.lushr X32.here hx rfl (hb hby own_d_method_3_49) rfl k_) ?_
  show own_Go p e below _ (T32.setTop (mkF m 50 #[.val (.ref b), .val (.int (8 : Int32)), .val (.long v64), .second] [(.long ((v64.toUInt64 >>> ((24 : Int32) &&& 0x3f).toInt64.toUInt64).toInt64)), (.int (12 : Int32)), (.ref b)]))
  refine own_st (fun u_ k_ => XS.l2i X32.here hx rfl (hb hby own_d_method_3_50) rfl k_) ?_
  show own_Go p e below _ (T32.setTop (mkF m 51 #[.val (.ref b), .val (.int (8 : Int32)), .val (.long v64), .second] [(.int (((v64.toUInt64 >>> ((24 : Int32) &&& 0x3f).toInt64.toUInt64).toInt64).toInt32)), (.int (12 : Int32)), (.ref b)]))
  refine own_st (fun u_ k_ => XS.i2b X32.here hx rfl (hb hby own_d_method_3_51) rfl k_) ?_
  show own_Go p e below _ (T32.setTop (mkF m 52 #[.val (.ref b), .val (.int (8 : Int32)), .val (.long v64), .second] [(.int ((((v64.toUInt64 >>> ((24 : Int32) &&& 0x3f).toInt64.toUInt64).toInt64).toInt32).toInt8.toInt32)), (.int (12 : Int32)), (.ref b)]))
  obtain ⟨cl33, Ar33, q33, S33, N33, H33, G33⟩ := id V32
  have hi33 : ¬ ((12 : Int32) < 0 ∨ cl33.slots.size ≤ ((12 : Int32)).toNatClampNeg) := inb_of S33 ⟨by decide, own_lt37 hn (by decide)⟩
  obtain ⟨T34, h34, X34, e34, W34, st34⟩ := stB X32 hx hZ e32 Ar33 (j := (12 : Int32)) hi33 (g := (mkF m 52 #[.val (.ref b), .val (.int (8 : Int32)), .val (.long v64), .second] [(.int ((((v64.toUInt64 >>> ((24 : Int32) &&& 0x3f).toInt64.toUInt64).toInt64).toInt32).toInt8.toInt32)), (.int (12 : Int32)), (.ref b)])) rfl rfl (hb hby own_d_method_3_52)
  rw [own_bb] at W34
  have N34 := Fr.snoc X34 N32 gb
  have V34 : Arv Z h34 b kb .byte n (List.set (List.set (List.set (List.set (List.set vs 8 (.int ((((v64.toUInt64 >>> ((56 : Int32) &&& 0x3f).toInt64.toUInt64).toInt64).toInt32).toInt8.toInt32))) 9 (.int ((((v64.toUInt64 >>> ((48 : Int32) &&& 0x3f).toInt64.toUInt64).toInt64).toInt32).toInt8.toInt32))) 10 (.int ((((v64.toUInt64 >>> ((40 : Int32) &&& 0x3f).toInt64.toUInt64).toInt64).toInt32).toInt8.toInt32))) 11 (.int ((((v64.toUInt64 >>> ((32 : Int32) &&& 0x3f).toInt64.toUInt64).toInt64).toInt32).toInt8.toInt32))) 12 (.int ((((v64.toUInt64 >>> ((24 : Int32) &&& 0x3f).toInt64.toUInt64).toInt64).toInt32).toInt8.toInt32))) (.int (0 : Int32)) := Arv.set Ar33 q33 S33 N33 H33 G33 (fits_nar_byte _) W34 12 rfl (by simp only [List.length_set, hl]; decide)
  refine own_st (fun u_ k_ => st34 u_ k_) ?_
  show own_Go p e below _ (T34.setTop (mkF m 53 #[.val (.ref b), .val (.int (8 : Int32)), .val (.long v64), .second] []))
  refine own_st (fun u_ k_ => XS.aloadN X34.here hx rfl (hb hby own_d_method_3_53) rfl rfl k_) ?_
  show own_Go p e below _ (T34.setTop (mkF m 54 #[.val (.ref b), .val (.int (8 : Int32)), .val (.long v64), .second] [(.ref b)]))
  refine own_st (fun u_ k_ => XS.iloadN X34.here hx rfl (hb hby own_d_method_3_54) rfl k_) ?_
  show own_Go p e below _ (T34.setTop (mkF m 55 #[.val (.ref b), .val (.int (8 : Int32)), .val (.long v64), .second] [(.int (8 : Int32)), (.ref b)]))
  refine own_st (fun u_ k_ => XS.iconst X34.here hx rfl (hb hby own_d_method_3_55) k_) ?_
  show own_Go p e below _ (T34.setTop (mkF m 56 #[.val (.ref b), .val (.int (8 : Int32)), .val (.long v64), .second] [(.int (5 : Int32)), (.int (8 : Int32)), (.ref b)]))
  refine own_st (fun u_ k_ => XS.iadd X34.here hx rfl (hb hby own_d_method_3_56) rfl k_) ?_
  show own_Go p e below _ (T34.setTop (mkF m 57 #[.val (.ref b), .val (.int (8 : Int32)), .val (.long v64), .second] [(.int (13 : Int32)), (.ref b)]))
  refine own_st (fun u_ k_ => XS.lloadN X34.here hx rfl (hb hby own_d_method_3_57) rfl k_) ?_
  show own_Go p e below _ (T34.setTop (mkF m 58 #[.val (.ref b), .val (.int (8 : Int32)), .val (.long v64), .second] [(.long v64), (.int (13 : Int32)), (.ref b)]))
  refine own_st (fun u_ k_ => XS.bipush X34.here hx rfl (hb hby own_d_method_3_58) k_) ?_
  show own_Go p e below _ (T34.setTop (mkF m 60 #[.val (.ref b), .val (.int (8 : Int32)), .val (.long v64), .second] [(.int (16 : Int32)), (.long v64), (.int (13 : Int32)), (.ref b)]))
  refine own_st (fun u_ k_ => XS.lushr X34.here hx rfl (hb hby own_d_method_3_60) rfl k_) ?_
  show own_Go p e below _ (T34.setTop (mkF m 61 #[.val (.ref b), .val (.int (8 : Int32)), .val (.long v64), .second] [(.long ((v64.toUInt64 >>> ((16 : Int32) &&& 0x3f).toInt64.toUInt64).toInt64)), (.int (13 : Int32)), (.ref b)]))
  refine own_st (fun u_ k_ => XS.l2i X34.here hx rfl (hb hby own_d_method_3_61) rfl k_) ?_
  show own_Go p e below _ (T34.setTop (mkF m 62 #[.val (.ref b), .val (.int (8 : Int32)), .val (.long v64), .second] [(.int (((v64.toUInt64 >>> ((16 : Int32) &&& 0x3f).toInt64.toUInt64).toInt64).toInt32)), (.int (13 : Int32)), (.ref b)]))
  refine own_st (fun u_ k_ => XS.i2b X34.here hx rfl (hb hby own_d_method_3_62) rfl k_) ?_
  show own_Go p e below _ (T34.setTop (mkF m 63 #[.val (.ref b), .val (.int (8 : Int32)), .val (.long v64), .second] [(.int ((((v64.toUInt64 >>> ((16 : Int32) &&& 0x3f).toInt64.toUInt64).toInt64).toInt32).toInt8.toInt32)), (.int (13 : Int32)), (.ref b)]))
  obtain ⟨cl35, Ar35, q35, S35, N35, H35, G35⟩ := id V34
  have hi35 : ¬ ((13 : Int32) < 0 ∨ cl35.slots.size ≤ ((13 : Int32)).toNatClampNeg) := inb_of S35 ⟨by decide, own_lt37 hn (by decide)⟩
  obtain ⟨T36, h36, X36, e36, W36, st36⟩ := stB X34 hx hZ e34 Ar35 (j := (13 : Int32)) hi35 (g := (mkF m 63 #[.val (.ref b), .val (.int (8 : Int32)), .val (.long v64), .second] [(.int ((((v64.toUInt64 >>> ((16 : Int32) &&& 0x3f).toInt64.toUInt64).toInt64).toInt32).toInt8.toInt32)), (.int (13 : Int32)), (.ref b)])) rfl rfl (hb hby own_d_method_3_63)
  rw [own_bb] at W36
  have N36 := Fr.snoc X36 N34 gb
  have V36 : Arv Z h36 b kb .byte n (List.set (List.set (List.set (List.set (List.set (List.set vs 8 (.int ((((v64.toUInt64 >>> ((56 : Int32) &&& 0x3f).toInt64.toUInt64).toInt64).toInt32).toInt8.toInt32))) 9 (.int ((((v64.toUInt64 >>> ((48 : Int32) &&& 0x3f).toInt64.toUInt64).toInt64).toInt32).toInt8.toInt32))) 10 (.int ((((v64.toUInt64 >>> ((40 : Int32) &&& 0x3f).toInt64.toUInt64).toInt64).toInt32).toInt8.toInt32))) 11 (.int ((((v64.toUInt64 >>> ((32 : Int32) &&& 0x3f).toInt64.toUInt64).toInt64).toInt32).toInt8.toInt32))) 12 (.int ((((v64.toUInt64 >>> ((24 : Int32) &&& 0x3f).toInt64.toUInt64).toInt64).toInt32).toInt8.toInt32))) 13 (.int ((((v64.toUInt64 >>> ((16 : Int32) &&& 0x3f).toInt64.toUInt64).toInt64).toInt32).toInt8.toInt32))) (.int (0 : Int32)) := Arv.set Ar35 q35 S35 N35 H35 G35 (fits_nar_byte _) W36 13 rfl (by simp only [List.length_set, hl]; decide)
  refine own_st (fun u_ k_ => st36 u_ k_) ?_
  show own_Go p e below _ (T36.setTop (mkF m 64 #[.val (.ref b), .val (.int (8 : Int32)), .val (.long v64), .second] []))
  refine own_st (fun u_ k_ => XS.aloadN X36.here hx rfl (hb hby own_d_method_3_64) rfl rfl k_) ?_
  show own_Go p e below _ (T36.setTop (mkF m 65 #[.val (.ref b), .val (.int (8 : Int32)), .val (.long v64), .second] [(.ref b)]))
  refine own_st (fun u_ k_ => XS.iloadN X36.here hx rfl (hb hby own_d_method_3_65) rfl k_) ?_
  show own_Go p e below _ (T36.setTop (mkF m 66 #[.val (.ref b), .val (.int (8 : Int32)), .val (.long v64), .second] [(.int (8 : Int32)), (.ref b)]))
  refine own_st (fun u_ k_ => XS.bipush X36.here hx rfl (hb hby own_d_method_3_66) k_) ?_
  show own_Go p e below _ (T36.setTop (mkF m 68 #[.val (.ref b), .val (.int (8 : Int32)), .val (.long v64), .second] [(.int (6 : Int32)), (.int (8 : Int32)), (.ref b)]))
  refine own_st (fun u_ k_ => XS.iadd X36.here hx rfl (hb hby own_d_method_3_68) rfl k_) ?_
  show own_Go p e below _ (T36.setTop (mkF m 69 #[.val (.ref b), .val (.int (8 : Int32)), .val (.long v64), .second] [(.int (14 : Int32)), (.ref b)]))
  refine own_st (fun u_ k_ => XS.lloadN X36.here hx rfl (hb hby own_d_method_3_69) rfl k_) ?_
  show own_Go p e below _ (T36.setTop (mkF m 70 #[.val (.ref b), .val (.int (8 : Int32)), .val (.long v64), .second] [(.long v64), (.int (14 : Int32)), (.ref b)]))
  refine own_st (fun u_ k_ => XS.bipush X36.here hx rfl (hb hby own_d_method_3_70) k_) ?_
  show own_Go p e below _ (T36.setTop (mkF m 72 #[.val (.ref b), .val (.int (8 : Int32)), .val (.long v64), .second] [(.int (8 : Int32)), (.long v64), (.int (14 : Int32)), (.ref b)]))
  refine own_st (fun u_ k_ => XS.lushr X36.here hx rfl (hb hby own_d_method_3_72) rfl k_) ?_
  show own_Go p e below _ (T36.setTop (mkF m 73 #[.val (.ref b), .val (.int (8 : Int32)), .val (.long v64), .second] [(.long ((v64.toUInt64 >>> ((8 : Int32) &&& 0x3f).toInt64.toUInt64).toInt64)), (.int (14 : Int32)), (.ref b)]))
  refine own_st (fun u_ k_ => XS.l2i X36.here hx rfl (hb hby own_d_method_3_73) rfl k_) ?_
  show own_Go p e below _ (T36.setTop (mkF m 74 #[.val (.ref b), .val (.int (8 : Int32)), .val (.long v64), .second] [(.int (((v64.toUInt64 >>> ((8 : Int32) &&& 0x3f).toInt64.toUInt64).toInt64).toInt32)), (.int (14 : Int32)), (.ref b)]))
  refine own_st (fun u_ k_ => XS.i2b X36.here hx rfl (hb hby own_d_method_3_74) rfl k_) ?_
  show own_Go p e below _ (T36.setTop (mkF m 75 #[.val (.ref b), .val (.int (8 : Int32)), .val (.long v64), .second] [(.int ((((v64.toUInt64 >>> ((8 : Int32) &&& 0x3f).toInt64.toUInt64).toInt64).toInt32).toInt8.toInt32)), (.int (14 : Int32)), (.ref b)]))
  obtain ⟨cl37, Ar37, q37, S37, N37, H37, G37⟩ := id V36
  have hi37 : ¬ ((14 : Int32) < 0 ∨ cl37.slots.size ≤ ((14 : Int32)).toNatClampNeg) := inb_of S37 ⟨by decide, own_lt37 hn (by decide)⟩
  obtain ⟨T38, h38, X38, e38, W38, st38⟩ := stB X36 hx hZ e36 Ar37 (j := (14 : Int32)) hi37 (g := (mkF m 75 #[.val (.ref b), .val (.int (8 : Int32)), .val (.long v64), .second] [(.int ((((v64.toUInt64 >>> ((8 : Int32) &&& 0x3f).toInt64.toUInt64).toInt64).toInt32).toInt8.toInt32)), (.int (14 : Int32)), (.ref b)])) rfl rfl (hb hby own_d_method_3_75)
  rw [own_bb] at W38
  have N38 := Fr.snoc X38 N36 gb
  have V38 : Arv Z h38 b kb .byte n (List.set (List.set (List.set (List.set (List.set (List.set (List.set vs 8 (.int ((((v64.toUInt64 >>> ((56 : Int32) &&& 0x3f).toInt64.toUInt64).toInt64).toInt32).toInt8.toInt32))) 9 (.int ((((v64.toUInt64 >>> ((48 : Int32) &&& 0x3f).toInt64.toUInt64).toInt64).toInt32).toInt8.toInt32))) 10 (.int ((((v64.toUInt64 >>> ((40 : Int32) &&& 0x3f).toInt64.toUInt64).toInt64).toInt32).toInt8.toInt32))) 11 (.int ((((v64.toUInt64 >>> ((32 : Int32) &&& 0x3f).toInt64.toUInt64).toInt64).toInt32).toInt8.toInt32))) 12 (.int ((((v64.toUInt64 >>> ((24 : Int32) &&& 0x3f).toInt64.toUInt64).toInt64).toInt32).toInt8.toInt32))) 13 (.int ((((v64.toUInt64 >>> ((16 : Int32) &&& 0x3f).toInt64.toUInt64).toInt64).toInt32).toInt8.toInt32))) 14 (.int ((((v64.toUInt64 >>> ((8 : Int32) &&& 0x3f).toInt64.toUInt64).toInt64).toInt32).toInt8.toInt32))) (.int (0 : Int32)) := Arv.set Ar37 q37 S37 N37 H37 G37 (fits_nar_byte _) W38 14 rfl (by simp only [List.length_set, hl]; decide)
  refine own_st (fun u_ k_ => st38 u_ k_) ?_
  show own_Go p e below _ (T38.setTop (mkF m 76 #[.val (.ref b), .val (.int (8 : Int32)), .val (.long v64), .second] []))
  refine own_st (fun u_ k_ => XS.aloadN X38.here hx rfl (hb hby own_d_method_3_76) rfl rfl k_) ?_
  show own_Go p e below _ (T38.setTop (mkF m 77 #[.val (.ref b), .val (.int (8 : Int32)), .val (.long v64), .second] [(.ref b)]))
  refine own_st (fun u_ k_ => XS.iloadN X38.here hx rfl (hb hby own_d_method_3_77) rfl k_) ?_
  show own_Go p e below _ (T38.setTop (mkF m 78 #[.val (.ref b), .val (.int (8 : Int32)), .val (.long v64), .second] [(.int (8 : Int32)), (.ref b)]))
  refine own_st (fun u_ k_ => XS.bipush X38.here hx rfl (hb hby own_d_method_3_78) k_) ?_
  show own_Go p e below _ (T38.setTop (mkF m 80 #[.val (.ref b), .val (.int (8 : Int32)), .val (.long v64), .second] [(.int (7 : Int32)), (.int (8 : Int32)), (.ref b)]))
  refine own_st (fun u_ k_ => XS.iadd X38.here hx rfl (hb hby own_d_method_3_80) rfl k_) ?_
  show own_Go p e below _ (T38.setTop (mkF m 81 #[.val (.ref b), .val (.int (8 : Int32)), .val (.long v64), .second] [(.int (15 : Int32)), (.ref b)]))
  refine own_st (fun u_ k_ => XS.lloadN X38.here hx rfl (hb hby own_d_method_3_81) rfl k_) ?_
  show own_Go p e below _ (T38.setTop (mkF m 82 #[.val (.ref b), .val (.int (8 : Int32)), .val (.long v64), .second] [(.long v64), (.int (15 : Int32)), (.ref b)]))
  refine own_st (fun u_ k_ => XS.l2i X38.here hx rfl (hb hby own_d_method_3_82) rfl k_) ?_
  show own_Go p e below _ (T38.setTop (mkF m 83 #[.val (.ref b), .val (.int (8 : Int32)), .val (.long v64), .second] [(.int (v64.toInt32)), (.int (15 : Int32)), (.ref b)]))
  refine own_st (fun u_ k_ => XS.i2b X38.here hx rfl (hb hby own_d_method_3_83) rfl k_) ?_
  show own_Go p e below _ (T38.setTop (mkF m 84 #[.val (.ref b), .val (.int (8 : Int32)), .val (.long v64), .second] [(.int ((v64.toInt32).toInt8.toInt32)), (.int (15 : Int32)), (.ref b)]))
  obtain ⟨cl39, Ar39, q39, S39, N39, H39, G39⟩ := id V38
  have hi39 : ¬ ((15 : Int32) < 0 ∨ cl39.slots.size ≤ ((15 : Int32)).toNatClampNeg) := inb_of S39 ⟨by decide, own_lt37 hn (by decide)⟩
  obtain ⟨T40, h40, X40, e40, W40, st40⟩ := stB X38 hx hZ e38 Ar39 (j := (15 : Int32)) hi39 (g := (mkF m 84 #[.val (.ref b), .val (.int (8 : Int32)), .val (.long v64), .second] [(.int ((v64.toInt32).toInt8.toInt32)), (.int (15 : Int32)), (.ref b)])) rfl rfl (hb hby own_d_method_3_84)
  rw [own_bb] at W40
  have N40 := Fr.snoc X40 N38 gb
  have V40 : Arv Z h40 b kb .byte n (List.set (List.set (List.set (List.set (List.set (List.set (List.set (List.set vs 8 (.int ((((v64.toUInt64 >>> ((56 : Int32) &&& 0x3f).toInt64.toUInt64).toInt64).toInt32).toInt8.toInt32))) 9 (.int ((((v64.toUInt64 >>> ((48 : Int32) &&& 0x3f).toInt64.toUInt64).toInt64).toInt32).toInt8.toInt32))) 10 (.int ((((v64.toUInt64 >>> ((40 : Int32) &&& 0x3f).toInt64.toUInt64).toInt64).toInt32).toInt8.toInt32))) 11 (.int ((((v64.toUInt64 >>> ((32 : Int32) &&& 0x3f).toInt64.toUInt64).toInt64).toInt32).toInt8.toInt32))) 12 (.int ((((v64.toUInt64 >>> ((24 : Int32) &&& 0x3f).toInt64.toUInt64).toInt64).toInt32).toInt8.toInt32))) 13 (.int ((((v64.toUInt64 >>> ((16 : Int32) &&& 0x3f).toInt64.toUInt64).toInt64).toInt32).toInt8.toInt32))) 14 (.int ((((v64.toUInt64 >>> ((8 : Int32) &&& 0x3f).toInt64.toUInt64).toInt64).toInt32).toInt8.toInt32))) 15 (.int ((v64.toInt32).toInt8.toInt32))) (.int (0 : Int32)) := Arv.set Ar39 q39 S39 N39 H39 G39 (fits_nar_byte _) W40 15 rfl (by simp only [List.length_set, hl]; decide)
  refine own_st (fun u_ k_ => st40 u_ k_) ?_
  show own_Go p e below _ (T40.setTop (mkF m 85 #[.val (.ref b), .val (.int (8 : Int32)), .val (.long v64), .second] []))
  have K41 : Keep h0 h26 [b] := (Keep.refl h0 [b]).wr W26 (Or.inl (List.mem_of_getElem? (i := 0) rfl))
  have K42 : Keep h0 h28 [b] := K41.wr W28 (Or.inl (List.mem_of_getElem? (i := 0) rfl))
  have K43 : Keep h0 h30 [b] := K42.wr W30 (Or.inl (List.mem_of_getElem? (i := 0) rfl))
  have K44 : Keep h0 h32 [b] := K43.wr W32 (Or.inl (List.mem_of_getElem? (i := 0) rfl))
  have K45 : Keep h0 h34 [b] := K44.wr W34 (Or.inl (List.mem_of_getElem? (i := 0) rfl))
  have K46 : Keep h0 h36 [b] := K45.wr W36 (Or.inl (List.mem_of_getElem? (i := 0) rfl))
  have K47 : Keep h0 h38 [b] := K46.wr W38 (Or.inl (List.mem_of_getElem? (i := 0) rfl))
  have K48 : Keep h0 h40 [b] := K47.wr W40 (Or.inl (List.mem_of_getElem? (i := 0) rfl))
  exact own_retV X40 hx hlk hret (hb hby own_d_method_3_85) (by decide) (by decide) (show QrmP8 Z we b kb n vs v64 h0 n0 none T40.heap _ from (by rw [e40]; exact ⟨rfl, N40, K48, V40⟩))
theorem own_ef_rmP16 (m : MethodId) (b : Addr) (n : Int32) (v64 : Int64)  : entryFrame m #[(.ref b), (.int (16 : Int32)), (.long v64)] 4 = mkF m 0 #[.val (.ref b), .val (.int (16 : Int32)), .val (.long v64), .second] [] := by first | (simp [entryFrame, mkF, argsToLocals, Value.category, maxLocals]; done) | rfl
def QrmP16 (Z : State) (we : Addr) (b : Addr) (kb : ClassId) (n : Int32) (vs : List Value) (v64 : Int64) (h0 : Heap) (n0 : Nat) (v : Option Value) (h : Heap) (L : List Loc) : Prop := v = none ∧ Fr n0 L ∧ Keep h0 h [b] ∧ Arv Z h b kb .byte n (own_put 16 vs (.int ((((v64.toUInt64 >>> ((56 : Int32) &&& 0x3f).toInt64.toUInt64).toInt64).toInt32).toInt8.toInt32)) (.int ((((v64.toUInt64 >>> ((48 : Int32) &&& 0x3f).toInt64.toUInt64).toInt64).toInt32).toInt8.toInt32)) (.int ((((v64.toUInt64 >>> ((40 : Int32) &&& 0x3f).toInt64.toUInt64).toInt64).toInt32).toInt8.toInt32)) (.int ((((v64.toUInt64 >>> ((32 : Int32) &&& 0x3f).toInt64.toUInt64).toInt64).toInt32).toInt8.toInt32)) (.int ((((v64.toUInt64 >>> ((24 : Int32) &&& 0x3f).toInt64.toUInt64).toInt64).toInt32).toInt8.toInt32)) (.int ((((v64.toUInt64 >>> ((16 : Int32) &&& 0x3f).toInt64.toUInt64).toInt64).toInt32).toInt8.toInt32)) (.int ((((v64.toUInt64 >>> ((8 : Int32) &&& 0x3f).toInt64.toUInt64).toInt64).toInt32).toInt8.toInt32)) (.int ((v64.toInt32).toInt8.toInt32))) (.int (0 : Int32))
set_option maxRecDepth 65536 in
set_option maxHeartbeats 40000000 in
theorem rmP16 (l : Launch) (Z : State) (a0 : Array Value) (hw : own_H a0 Z) (ws : List Jvm.Cond) (we : Addr) (hS : own_S Z we) (b : Addr) (kb : ClassId) (n : Int32) (vs : List Value) (v64 : Int64) (h0 : Heap) (n0 : Nat) (O0 : Old Z n0 h0) (V : Arv Z h0 b kb .byte n vs (.int (0 : Int32))) (gb : n0 ≤ b) (hl : vs.length = 64) (hn : ¬ n < (37 : Int32)) :
    own_Met l own_y_77 method_3_code 4 none ws ({ frames := 0, cells := 0, slots := 0, locals := 0 } : Room) Z h0 #[(.ref b), (.int (16 : Int32)), (.long v64)] (QrmP16 Z we b kb n vs v64 h0 n0) := by
  refine own_body (plainFor_of_name own_pn_78) ?_
  intro p e s m below meth c s₁ hx hby hml hown hnm hret hlk hZ e0 X0
  have N0 := Fr.nil n0
  refine own_st (fun u_ k_ => castTop (own_ef_rmP16 m b n v64) k_) ?_
  show own_Go p e below _ (s₁.setTop (mkF m 0 #[.val (.ref b), .val (.int (16 : Int32)), .val (.long v64), .second] []))
  refine own_st (fun u_ k_ => XS.aloadN X0.here hx rfl (hb hby own_d_method_3_0) rfl rfl k_) ?_
  show own_Go p e below _ (s₁.setTop (mkF m 1 #[.val (.ref b), .val (.int (16 : Int32)), .val (.long v64), .second] [(.ref b)]))
  refine own_st (fun u_ k_ => XS.iloadN X0.here hx rfl (hb hby own_d_method_3_1) rfl k_) ?_
  show own_Go p e below _ (s₁.setTop (mkF m 2 #[.val (.ref b), .val (.int (16 : Int32)), .val (.long v64), .second] [(.int (16 : Int32)), (.ref b)]))
  refine own_st (fun u_ k_ => XS.lloadN X0.here hx rfl (hb hby own_d_method_3_2) rfl k_) ?_
  show own_Go p e below _ (s₁.setTop (mkF m 3 #[.val (.ref b), .val (.int (16 : Int32)), .val (.long v64), .second] [(.long v64), (.int (16 : Int32)), (.ref b)]))
  refine own_st (fun u_ k_ => XS.bipush X0.here hx rfl (hb hby own_d_method_3_3) k_) ?_
  show own_Go p e below _ (s₁.setTop (mkF m 5 #[.val (.ref b), .val (.int (16 : Int32)), .val (.long v64), .second] [(.int (56 : Int32)), (.long v64), (.int (16 : Int32)), (.ref b)]))
  refine own_st (fun u_ k_ => XS.lushr X0.here hx rfl (hb hby own_d_method_3_5) rfl k_) ?_
  show own_Go p e below _ (s₁.setTop (mkF m 6 #[.val (.ref b), .val (.int (16 : Int32)), .val (.long v64), .second] [(.long ((v64.toUInt64 >>> ((56 : Int32) &&& 0x3f).toInt64.toUInt64).toInt64)), (.int (16 : Int32)), (.ref b)]))
  refine own_st (fun u_ k_ => XS.l2i X0.here hx rfl (hb hby own_d_method_3_6) rfl k_) ?_
  show own_Go p e below _ (s₁.setTop (mkF m 7 #[.val (.ref b), .val (.int (16 : Int32)), .val (.long v64), .second] [(.int (((v64.toUInt64 >>> ((56 : Int32) &&& 0x3f).toInt64.toUInt64).toInt64).toInt32)), (.int (16 : Int32)), (.ref b)]))
  refine own_st (fun u_ k_ => XS.i2b X0.here hx rfl (hb hby own_d_method_3_7) rfl k_) ?_
  show own_Go p e below _ (s₁.setTop (mkF m 8 #[.val (.ref b), .val (.int (16 : Int32)), .val (.long v64), .second] [(.int ((((v64.toUInt64 >>> ((56 : Int32) &&& 0x3f).toInt64.toUInt64).toInt64).toInt32).toInt8.toInt32)), (.int (16 : Int32)), (.ref b)]))
  obtain ⟨cl49, Ar49, q49, S49, N49, H49, G49⟩ := id V
  have hi49 : ¬ ((16 : Int32) < 0 ∨ cl49.slots.size ≤ ((16 : Int32)).toNatClampNeg) := inb_of S49 ⟨by decide, own_lt37 hn (by decide)⟩
  obtain ⟨T50, h50, X50, e50, W50, st50⟩ := stB X0 hx hZ e0 Ar49 (j := (16 : Int32)) hi49 (g := (mkF m 8 #[.val (.ref b), .val (.int (16 : Int32)), .val (.long v64), .second] [(.int ((((v64.toUInt64 >>> ((56 : Int32) &&& 0x3f).toInt64.toUInt64).toInt64).toInt32).toInt8.toInt32)), (.int (16 : Int32)), (.ref b)])) rfl rfl (hb hby own_d_method_3_8)
  rw [own_bb] at W50
  have N50 := Fr.snoc X50 N0 gb
  have V50 : Arv Z h50 b kb .byte n (List.set vs 16 (.int ((((v64.toUInt64 >>> ((56 : Int32) &&& 0x3f).toInt64.toUInt64).toInt64).toInt32).toInt8.toInt32))) (.int (0 : Int32)) := Arv.set Ar49 q49 S49 N49 H49 G49 (fits_nar_byte _) W50 16 rfl (by simp only [List.length_set, hl]; decide)
  refine own_st (fun u_ k_ => st50 u_ k_) ?_
  show own_Go p e below _ (T50.setTop (mkF m 9 #[.val (.ref b), .val (.int (16 : Int32)), .val (.long v64), .second] []))
  refine own_st (fun u_ k_ => XS.aloadN X50.here hx rfl (hb hby own_d_method_3_9) rfl rfl k_) ?_
  show own_Go p e below _ (T50.setTop (mkF m 10 #[.val (.ref b), .val (.int (16 : Int32)), .val (.long v64), .second] [(.ref b)]))
  refine own_st (fun u_ k_ => XS.iloadN X50.here hx rfl (hb hby own_d_method_3_10) rfl k_) ?_
  show own_Go p e below _ (T50.setTop (mkF m 11 #[.val (.ref b), .val (.int (16 : Int32)), .val (.long v64), .second] [(.int (16 : Int32)), (.ref b)]))
  refine own_st (fun u_ k_ => XS.iconst X50.here hx rfl (hb hby own_d_method_3_11) k_) ?_
  show own_Go p e below _ (T50.setTop (mkF m 12 #[.val (.ref b), .val (.int (16 : Int32)), .val (.long v64), .second] [(.int (1 : Int32)), (.int (16 : Int32)), (.ref b)]))
  refine own_st (fun u_ k_ => XS.iadd X50.here hx rfl (hb hby own_d_method_3_12) rfl k_) ?_
  show own_Go p e below _ (T50.setTop (mkF m 13 #[.val (.ref b), .val (.int (16 : Int32)), .val (.long v64), .second] [(.int (17 : Int32)), (.ref b)]))
  refine own_st (fun u_ k_ => XS.lloadN X50.here hx rfl (hb hby own_d_method_3_13) rfl k_) ?_
  show own_Go p e below _ (T50.setTop (mkF m 14 #[.val (.ref b), .val (.int (16 : Int32)), .val (.long v64), .second] [(.long v64), (.int (17 : Int32)), (.ref b)]))
  refine own_st (fun u_ k_ => XS.bipush X50.here hx rfl (hb hby own_d_method_3_14) k_) ?_
  show own_Go p e below _ (T50.setTop (mkF m 16 #[.val (.ref b), .val (.int (16 : Int32)), .val (.long v64), .second] [(.int (48 : Int32)), (.long v64), (.int (17 : Int32)), (.ref b)]))
  refine own_st (fun u_ k_ => XS.lushr X50.here hx rfl (hb hby own_d_method_3_16) rfl k_) ?_
  show own_Go p e below _ (T50.setTop (mkF m 17 #[.val (.ref b), .val (.int (16 : Int32)), .val (.long v64), .second] [(.long ((v64.toUInt64 >>> ((48 : Int32) &&& 0x3f).toInt64.toUInt64).toInt64)), (.int (17 : Int32)), (.ref b)]))
  refine own_st (fun u_ k_ => XS.l2i X50.here hx rfl (hb hby own_d_method_3_17) rfl k_) ?_
  show own_Go p e below _ (T50.setTop (mkF m 18 #[.val (.ref b), .val (.int (16 : Int32)), .val (.long v64), .second] [(.int (((v64.toUInt64 >>> ((48 : Int32) &&& 0x3f).toInt64.toUInt64).toInt64).toInt32)), (.int (17 : Int32)), (.ref b)]))
  refine own_st (fun u_ k_ => XS.i2b X50.here hx rfl (hb hby own_d_method_3_18) rfl k_) ?_
  show own_Go p e below _ (T50.setTop (mkF m 19 #[.val (.ref b), .val (.int (16 : Int32)), .val (.long v64), .second] [(.int ((((v64.toUInt64 >>> ((48 : Int32) &&& 0x3f).toInt64.toUInt64).toInt64).toInt32).toInt8.toInt32)), (.int (17 : Int32)), (.ref b)]))
  obtain ⟨cl51, Ar51, q51, S51, N51, H51, G51⟩ := id V50
  have hi51 : ¬ ((17 : Int32) < 0 ∨ cl51.slots.size ≤ ((17 : Int32)).toNatClampNeg) := inb_of S51 ⟨by decide, own_lt37 hn (by decide)⟩
  obtain ⟨T52, h52, X52, e52, W52, st52⟩ := stB X50 hx hZ e50 Ar51 (j := (17 : Int32)) hi51 (g := (mkF m 19 #[.val (.ref b), .val (.int (16 : Int32)), .val (.long v64), .second] [(.int ((((v64.toUInt64 >>> ((48 : Int32) &&& 0x3f).toInt64.toUInt64).toInt64).toInt32).toInt8.toInt32)), (.int (17 : Int32)), (.ref b)])) rfl rfl (hb hby own_d_method_3_19)
  rw [own_bb] at W52
  have N52 := Fr.snoc X52 N50 gb
  have V52 : Arv Z h52 b kb .byte n (List.set (List.set vs 16 (.int ((((v64.toUInt64 >>> ((56 : Int32) &&& 0x3f).toInt64.toUInt64).toInt64).toInt32).toInt8.toInt32))) 17 (.int ((((v64.toUInt64 >>> ((48 : Int32) &&& 0x3f).toInt64.toUInt64).toInt64).toInt32).toInt8.toInt32))) (.int (0 : Int32)) := Arv.set Ar51 q51 S51 N51 H51 G51 (fits_nar_byte _) W52 17 rfl (by simp only [List.length_set, hl]; decide)
  refine own_st (fun u_ k_ => st52 u_ k_) ?_
  show own_Go p e below _ (T52.setTop (mkF m 20 #[.val (.ref b), .val (.int (16 : Int32)), .val (.long v64), .second] []))
  refine own_st (fun u_ k_ => XS.aloadN X52.here hx rfl (hb hby own_d_method_3_20) rfl rfl k_) ?_
  show own_Go p e below _ (T52.setTop (mkF m 21 #[.val (.ref b), .val (.int (16 : Int32)), .val (.long v64), .second] [(.ref b)]))
  refine own_st (fun u_ k_ => XS.iloadN X52.here hx rfl (hb hby own_d_method_3_21) rfl k_) ?_
  show own_Go p e below _ (T52.setTop (mkF m 22 #[.val (.ref b), .val (.int (16 : Int32)), .val (.long v64), .second] [(.int (16 : Int32)), (.ref b)]))
  refine own_st (fun u_ k_ => XS.iconst X52.here hx rfl (hb hby own_d_method_3_22) k_) ?_
  show own_Go p e below _ (T52.setTop (mkF m 23 #[.val (.ref b), .val (.int (16 : Int32)), .val (.long v64), .second] [(.int (2 : Int32)), (.int (16 : Int32)), (.ref b)]))
  refine own_st (fun u_ k_ => XS.iadd X52.here hx rfl (hb hby own_d_method_3_23) rfl k_) ?_
  show own_Go p e below _ (T52.setTop (mkF m 24 #[.val (.ref b), .val (.int (16 : Int32)), .val (.long v64), .second] [(.int (18 : Int32)), (.ref b)]))
  refine own_st (fun u_ k_ => XS.lloadN X52.here hx rfl (hb hby own_d_method_3_24) rfl k_) ?_
  show own_Go p e below _ (T52.setTop (mkF m 25 #[.val (.ref b), .val (.int (16 : Int32)), .val (.long v64), .second] [(.long v64), (.int (18 : Int32)), (.ref b)]))
  refine own_st (fun u_ k_ => XS.bipush X52.here hx rfl (hb hby own_d_method_3_25) k_) ?_
  show own_Go p e below _ (T52.setTop (mkF m 27 #[.val (.ref b), .val (.int (16 : Int32)), .val (.long v64), .second] [(.int (40 : Int32)), (.long v64), (.int (18 : Int32)), (.ref b)]))
  refine own_st (fun u_ k_ => XS.lushr X52.here hx rfl (hb hby own_d_method_3_27) rfl k_) ?_
  show own_Go p e below _ (T52.setTop (mkF m 28 #[.val (.ref b), .val (.int (16 : Int32)), .val (.long v64), .second] [(.long ((v64.toUInt64 >>> ((40 : Int32) &&& 0x3f).toInt64.toUInt64).toInt64)), (.int (18 : Int32)), (.ref b)]))
  refine own_st (fun u_ k_ => XS.l2i X52.here hx rfl (hb hby own_d_method_3_28) rfl k_) ?_
  show own_Go p e below _ (T52.setTop (mkF m 29 #[.val (.ref b), .val (.int (16 : Int32)), .val (.long v64), .second] [(.int (((v64.toUInt64 >>> ((40 : Int32) &&& 0x3f).toInt64.toUInt64).toInt64).toInt32)), (.int (18 : Int32)), (.ref b)]))
  refine own_st (fun u_ k_ => XS.i2b X52.here hx rfl (hb hby own_d_method_3_29) rfl k_) ?_
  show own_Go p e below _ (T52.setTop (mkF m 30 #[.val (.ref b), .val (.int (16 : Int32)), .val (.long v64), .second] [(.int ((((v64.toUInt64 >>> ((40 : Int32) &&& 0x3f).toInt64.toUInt64).toInt64).toInt32).toInt8.toInt32)), (.int (18 : Int32)), (.ref b)]))
  obtain ⟨cl53, Ar53, q53, S53, N53, H53, G53⟩ := id V52
  have hi53 : ¬ ((18 : Int32) < 0 ∨ cl53.slots.size ≤ ((18 : Int32)).toNatClampNeg) := inb_of S53 ⟨by decide, own_lt37 hn (by decide)⟩
  obtain ⟨T54, h54, X54, e54, W54, st54⟩ := stB X52 hx hZ e52 Ar53 (j := (18 : Int32)) hi53 (g := (mkF m 30 #[.val (.ref b), .val (.int (16 : Int32)), .val (.long v64), .second] [(.int ((((v64.toUInt64 >>> ((40 : Int32) &&& 0x3f).toInt64.toUInt64).toInt64).toInt32).toInt8.toInt32)), (.int (18 : Int32)), (.ref b)])) rfl rfl (hb hby own_d_method_3_30)
  rw [own_bb] at W54
  have N54 := Fr.snoc X54 N52 gb
  have V54 : Arv Z h54 b kb .byte n (List.set (List.set (List.set vs 16 (.int ((((v64.toUInt64 >>> ((56 : Int32) &&& 0x3f).toInt64.toUInt64).toInt64).toInt32).toInt8.toInt32))) 17 (.int ((((v64.toUInt64 >>> ((48 : Int32) &&& 0x3f).toInt64.toUInt64).toInt64).toInt32).toInt8.toInt32))) 18 (.int ((((v64.toUInt64 >>> ((40 : Int32) &&& 0x3f).toInt64.toUInt64).toInt64).toInt32).toInt8.toInt32))) (.int (0 : Int32)) := Arv.set Ar53 q53 S53 N53 H53 G53 (fits_nar_byte _) W54 18 rfl (by simp only [List.length_set, hl]; decide)
  refine own_st (fun u_ k_ => st54 u_ k_) ?_
  show own_Go p e below _ (T54.setTop (mkF m 31 #[.val (.ref b), .val (.int (16 : Int32)), .val (.long v64), .second] []))
  refine own_st (fun u_ k_ => XS.aloadN X54.here hx rfl (hb hby own_d_method_3_31) rfl rfl k_) ?_
  show own_Go p e below _ (T54.setTop (mkF m 32 #[.val (.ref b), .val (.int (16 : Int32)), .val (.long v64), .second] [(.ref b)]))
  refine own_st (fun u_ k_ => XS.iloadN X54.here hx rfl (hb hby own_d_method_3_32) rfl k_) ?_
  show own_Go p e below _ (T54.setTop (mkF m 33 #[.val (.ref b), .val (.int (16 : Int32)), .val (.long v64), .second] [(.int (16 : Int32)), (.ref b)]))
  refine own_st (fun u_ k_ => XS.iconst X54.here hx rfl (hb hby own_d_method_3_33) k_) ?_
  show own_Go p e below _ (T54.setTop (mkF m 34 #[.val (.ref b), .val (.int (16 : Int32)), .val (.long v64), .second] [(.int (3 : Int32)), (.int (16 : Int32)), (.ref b)]))
  refine own_st (fun u_ k_ => XS.iadd X54.here hx rfl (hb hby own_d_method_3_34) rfl k_) ?_
  show own_Go p e below _ (T54.setTop (mkF m 35 #[.val (.ref b), .val (.int (16 : Int32)), .val (.long v64), .second] [(.int (19 : Int32)), (.ref b)]))
  refine own_st (fun u_ k_ => XS.lloadN X54.here hx rfl (hb hby own_d_method_3_35) rfl k_) ?_
  show own_Go p e below _ (T54.setTop (mkF m 36 #[.val (.ref b), .val (.int (16 : Int32)), .val (.long v64), .second] [(.long v64), (.int (19 : Int32)), (.ref b)]))
  refine own_st (fun u_ k_ => XS.bipush X54.here hx rfl (hb hby own_d_method_3_36) k_) ?_
  show own_Go p e below _ (T54.setTop (mkF m 38 #[.val (.ref b), .val (.int (16 : Int32)), .val (.long v64), .second] [(.int (32 : Int32)), (.long v64), (.int (19 : Int32)), (.ref b)]))
  refine own_st (fun u_ k_ => XS.lushr X54.here hx rfl (hb hby own_d_method_3_38) rfl k_) ?_
  show own_Go p e below _ (T54.setTop (mkF m 39 #[.val (.ref b), .val (.int (16 : Int32)), .val (.long v64), .second] [(.long ((v64.toUInt64 >>> ((32 : Int32) &&& 0x3f).toInt64.toUInt64).toInt64)), (.int (19 : Int32)), (.ref b)]))
  refine own_st (fun u_ k_ => XS.l2i X54.here hx rfl (hb hby own_d_method_3_39) rfl k_) ?_
  show own_Go p e below _ (T54.setTop (mkF m 40 #[.val (.ref b), .val (.int (16 : Int32)), .val (.long v64), .second] [(.int (((v64.toUInt64 >>> ((32 : Int32) &&& 0x3f).toInt64.toUInt64).toInt64).toInt32)), (.int (19 : Int32)), (.ref b)]))
  refine own_st (fun u_ k_ => XS.i2b X54.here hx rfl (hb hby own_d_method_3_40) rfl k_) ?_
  show own_Go p e below _ (T54.setTop (mkF m 41 #[.val (.ref b), .val (.int (16 : Int32)), .val (.long v64), .second] [(.int ((((v64.toUInt64 >>> ((32 : Int32) &&& 0x3f).toInt64.toUInt64).toInt64).toInt32).toInt8.toInt32)), (.int (19 : Int32)), (.ref b)]))
  obtain ⟨cl55, Ar55, q55, S55, N55, H55, G55⟩ := id V54
  have hi55 : ¬ ((19 : Int32) < 0 ∨ cl55.slots.size ≤ ((19 : Int32)).toNatClampNeg) := inb_of S55 ⟨by decide, own_lt37 hn (by decide)⟩
  obtain ⟨T56, h56, X56, e56, W56, st56⟩ := stB X54 hx hZ e54 Ar55 (j := (19 : Int32)) hi55 (g := (mkF m 41 #[.val (.ref b), .val (.int (16 : Int32)), .val (.long v64), .second] [(.int ((((v64.toUInt64 >>> ((32 : Int32) &&& 0x3f).toInt64.toUInt64).toInt64).toInt32).toInt8.toInt32)), (.int (19 : Int32)), (.ref b)])) rfl rfl (hb hby own_d_method_3_41)
  rw [own_bb] at W56
  have N56 := Fr.snoc X56 N54 gb
  have V56 : Arv Z h56 b kb .byte n (List.set (List.set (List.set (List.set vs 16 (.int ((((v64.toUInt64 >>> ((56 : Int32) &&& 0x3f).toInt64.toUInt64).toInt64).toInt32).toInt8.toInt32))) 17 (.int ((((v64.toUInt64 >>> ((48 : Int32) &&& 0x3f).toInt64.toUInt64).toInt64).toInt32).toInt8.toInt32))) 18 (.int ((((v64.toUInt64 >>> ((40 : Int32) &&& 0x3f).toInt64.toUInt64).toInt64).toInt32).toInt8.toInt32))) 19 (.int ((((v64.toUInt64 >>> ((32 : Int32) &&& 0x3f).toInt64.toUInt64).toInt64).toInt32).toInt8.toInt32))) (.int (0 : Int32)) := Arv.set Ar55 q55 S55 N55 H55 G55 (fits_nar_byte _) W56 19 rfl (by simp only [List.length_set, hl]; decide)
  refine own_st (fun u_ k_ => st56 u_ k_) ?_
  show own_Go p e below _ (T56.setTop (mkF m 42 #[.val (.ref b), .val (.int (16 : Int32)), .val (.long v64), .second] []))
  refine own_st (fun u_ k_ => XS.aloadN X56.here hx rfl (hb hby own_d_method_3_42) rfl rfl k_) ?_
  show own_Go p e below _ (T56.setTop (mkF m 43 #[.val (.ref b), .val (.int (16 : Int32)), .val (.long v64), .second] [(.ref b)]))
  refine own_st (fun u_ k_ => XS.iloadN X56.here hx rfl (hb hby own_d_method_3_43) rfl k_) ?_
  show own_Go p e below _ (T56.setTop (mkF m 44 #[.val (.ref b), .val (.int (16 : Int32)), .val (.long v64), .second] [(.int (16 : Int32)), (.ref b)]))
  refine own_st (fun u_ k_ => XS.iconst X56.here hx rfl (hb hby own_d_method_3_44) k_) ?_
  show own_Go p e below _ (T56.setTop (mkF m 45 #[.val (.ref b), .val (.int (16 : Int32)), .val (.long v64), .second] [(.int (4 : Int32)), (.int (16 : Int32)), (.ref b)]))
  refine own_st (fun u_ k_ => XS.iadd X56.here hx rfl (hb hby own_d_method_3_45) rfl k_) ?_
  show own_Go p e below _ (T56.setTop (mkF m 46 #[.val (.ref b), .val (.int (16 : Int32)), .val (.long v64), .second] [(.int (20 : Int32)), (.ref b)]))
  refine own_st (fun u_ k_ => XS.lloadN X56.here hx rfl (hb hby own_d_method_3_46) rfl k_) ?_
  show own_Go p e below _ (T56.setTop (mkF m 47 #[.val (.ref b), .val (.int (16 : Int32)), .val (.long v64), .second] [(.long v64), (.int (20 : Int32)), (.ref b)]))
  refine own_st (fun u_ k_ => XS.bipush X56.here hx rfl (hb hby own_d_method_3_47) k_) ?_
  show own_Go p e below _ (T56.setTop (mkF m 49 #[.val (.ref b), .val (.int (16 : Int32)), .val (.long v64), .second] [(.int (24 : Int32)), (.long v64), (.int (20 : Int32)), (.ref b)]))
  refine own_st (fun u_ k_ => XS.lushr X56.here hx rfl (hb hby own_d_method_3_49) rfl k_) ?_
  show own_Go p e below _ (T56.setTop (mkF m 50 #[.val (.ref b), .val (.int (16 : Int32)), .val (.long v64), .second] [(.long ((v64.toUInt64 >>> ((24 : Int32) &&& 0x3f).toInt64.toUInt64).toInt64)), (.int (20 : Int32)), (.ref b)]))
  refine own_st (fun u_ k_ => XS.l2i X56.here hx rfl (hb hby own_d_method_3_50) rfl k_) ?_
  show own_Go p e below _ (T56.setTop (mkF m 51 #[.val (.ref b), .val (.int (16 : Int32)), .val (.long v64), .second] [(.int (((v64.toUInt64 >>> ((24 : Int32) &&& 0x3f).toInt64.toUInt64).toInt64).toInt32)), (.int (20 : Int32)), (.ref b)]))
  refine own_st (fun u_ k_ => XS.i2b X56.here hx rfl (hb hby own_d_method_3_51) rfl k_) ?_
  show own_Go p e below _ (T56.setTop (mkF m 52 #[.val (.ref b), .val (.int (16 : Int32)), .val (.long v64), .second] [(.int ((((v64.toUInt64 >>> ((24 : Int32) &&& 0x3f).toInt64.toUInt64).toInt64).toInt32).toInt8.toInt32)), (.int (20 : Int32)), (.ref b)]))
  obtain ⟨cl57, Ar57, q57, S57, N57, H57, G57⟩ := id V56
  have hi57 : ¬ ((20 : Int32) < 0 ∨ cl57.slots.size ≤ ((20 : Int32)).toNatClampNeg) := inb_of S57 ⟨by decide, own_lt37 hn (by decide)⟩
  obtain ⟨T58, h58, X58, e58, W58, st58⟩ := stB X56 hx hZ e56 Ar57 (j := (20 : Int32)) hi57 (g := (mkF m 52 #[.val (.ref b), .val (.int (16 : Int32)), .val (.long v64), .second] [(.int ((((v64.toUInt64 >>> ((24 : Int32) &&& 0x3f).toInt64.toUInt64).toInt64).toInt32).toInt8.toInt32)), (.int (20 : Int32)), (.ref b)])) rfl rfl (hb hby own_d_method_3_52)
  rw [own_bb] at W58
  have N58 := Fr.snoc X58 N56 gb
  have V58 : Arv Z h58 b kb .byte n (List.set (List.set (List.set (List.set (List.set vs 16 (.int ((((v64.toUInt64 >>> ((56 : Int32) &&& 0x3f).toInt64.toUInt64).toInt64).toInt32).toInt8.toInt32))) 17 (.int ((((v64.toUInt64 >>> ((48 : Int32) &&& 0x3f).toInt64.toUInt64).toInt64).toInt32).toInt8.toInt32))) 18 (.int ((((v64.toUInt64 >>> ((40 : Int32) &&& 0x3f).toInt64.toUInt64).toInt64).toInt32).toInt8.toInt32))) 19 (.int ((((v64.toUInt64 >>> ((32 : Int32) &&& 0x3f).toInt64.toUInt64).toInt64).toInt32).toInt8.toInt32))) 20 (.int ((((v64.toUInt64 >>> ((24 : Int32) &&& 0x3f).toInt64.toUInt64).toInt64).toInt32).toInt8.toInt32))) (.int (0 : Int32)) := Arv.set Ar57 q57 S57 N57 H57 G57 (fits_nar_byte _) W58 20 rfl (by simp only [List.length_set, hl]; decide)
  refine own_st (fun u_ k_ => st58 u_ k_) ?_
  show own_Go p e below _ (T58.setTop (mkF m 53 #[.val (.ref b), .val (.int (16 : Int32)), .val (.long v64), .second] []))
  refine own_st (fun u_ k_ => XS.aloadN X58.here hx rfl (hb hby own_d_method_3_53) rfl rfl k_) ?_
  show own_Go p e below _ (T58.setTop (mkF m 54 #[.val (.ref b), .val (.int (16 : Int32)), .val (.long v64), .second] [(.ref b)]))
  refine own_st (fun u_ k_ => XS.iloadN X58.here hx rfl (hb hby own_d_method_3_54) rfl k_) ?_
  show own_Go p e below _ (T58.setTop (mkF m 55 #[.val (.ref b), .val (.int (16 : Int32)), .val (.long v64), .second] [(.int (16 : Int32)), (.ref b)]))
  refine own_st (fun u_ k_ => XS.iconst X58.here hx rfl (hb hby own_d_method_3_55) k_) ?_
  show own_Go p e below _ (T58.setTop (mkF m 56 #[.val (.ref b), .val (.int (16 : Int32)), .val (.long v64), .second] [(.int (5 : Int32)), (.int (16 : Int32)), (.ref b)]))
  refine own_st (fun u_ k_ => XS.iadd X58.here hx rfl (hb hby own_d_method_3_56) rfl k_) ?_
  show own_Go p e below _ (T58.setTop (mkF m 57 #[.val (.ref b), .val (.int (16 : Int32)), .val (.long v64), .second] [(.int (21 : Int32)), (.ref b)]))
  refine own_st (fun u_ k_ => XS.lloadN X58.here hx rfl (hb hby own_d_method_3_57) rfl k_) ?_
  show own_Go p e below _ (T58.setTop (mkF m 58 #[.val (.ref b), .val (.int (16 : Int32)), .val (.long v64), .second] [(.long v64), (.int (21 : Int32)), (.ref b)]))
  refine own_st (fun u_ k_ => XS.bipush X58.here hx rfl (hb hby own_d_method_3_58) k_) ?_
  show own_Go p e below _ (T58.setTop (mkF m 60 #[.val (.ref b), .val (.int (16 : Int32)), .val (.long v64), .second] [(.int (16 : Int32)), (.long v64), (.int (21 : Int32)), (.ref b)]))
  refine own_st (fun u_ k_ => XS.lushr X58.here hx rfl (hb hby own_d_method_3_60) rfl k_) ?_
  show own_Go p e below _ (T58.setTop (mkF m 61 #[.val (.ref b), .val (.int (16 : Int32)), .val (.long v64), .second] [(.long ((v64.toUInt64 >>> ((16 : Int32) &&& 0x3f).toInt64.toUInt64).toInt64)), (.int (21 : Int32)), (.ref b)]))
  refine own_st (fun u_ k_ => XS.l2i X58.here hx rfl (hb hby own_d_method_3_61) rfl k_) ?_
  show own_Go p e below _ (T58.setTop (mkF m 62 #[.val (.ref b), .val (.int (16 : Int32)), .val (.long v64), .second] [(.int (((v64.toUInt64 >>> ((16 : Int32) &&& 0x3f).toInt64.toUInt64).toInt64).toInt32)), (.int (21 : Int32)), (.ref b)]))
  refine own_st (fun u_ k_ => XS.i2b X58.here hx rfl (hb hby own_d_method_3_62) rfl k_) ?_
  show own_Go p e below _ (T58.setTop (mkF m 63 #[.val (.ref b), .val (.int (16 : Int32)), .val (.long v64), .second] [(.int ((((v64.toUInt64 >>> ((16 : Int32) &&& 0x3f).toInt64.toUInt64).toInt64).toInt32).toInt8.toInt32)), (.int (21 : Int32)), (.ref b)]))
  obtain ⟨cl59, Ar59, q59, S59, N59, H59, G59⟩ := id V58
  have hi59 : ¬ ((21 : Int32) < 0 ∨ cl59.slots.size ≤ ((21 : Int32)).toNatClampNeg) := inb_of S59 ⟨by decide, own_lt37 hn (by decide)⟩
  obtain ⟨T60, h60, X60, e60, W60, st60⟩ := stB X58 hx hZ e58 Ar59 (j := (21 : Int32)) hi59 (g := (mkF m 63 #[.val (.ref b), .val (.int (16 : Int32)), .val (.long v64), .second] [(.int ((((v64.toUInt64 >>> ((16 : Int32) &&& 0x3f).toInt64.toUInt64).toInt64).toInt32).toInt8.toInt32)), (.int (21 : Int32)), (.ref b)])) rfl rfl (hb hby own_d_method_3_63)
  rw [own_bb] at W60
  have N60 := Fr.snoc X60 N58 gb
  have V60 : Arv Z h60 b kb .byte n (List.set (List.set (List.set (List.set (List.set (List.set vs 16 (.int ((((v64.toUInt64 >>> ((56 : Int32) &&& 0x3f).toInt64.toUInt64).toInt64).toInt32).toInt8.toInt32))) 17 (.int ((((v64.toUInt64 >>> ((48 : Int32) &&& 0x3f).toInt64.toUInt64).toInt64).toInt32).toInt8.toInt32))) 18 (.int ((((v64.toUInt64 >>> ((40 : Int32) &&& 0x3f).toInt64.toUInt64).toInt64).toInt32).toInt8.toInt32))) 19 (.int ((((v64.toUInt64 >>> ((32 : Int32) &&& 0x3f).toInt64.toUInt64).toInt64).toInt32).toInt8.toInt32))) 20 (.int ((((v64.toUInt64 >>> ((24 : Int32) &&& 0x3f).toInt64.toUInt64).toInt64).toInt32).toInt8.toInt32))) 21 (.int ((((v64.toUInt64 >>> ((16 : Int32) &&& 0x3f).toInt64.toUInt64).toInt64).toInt32).toInt8.toInt32))) (.int (0 : Int32)) := Arv.set Ar59 q59 S59 N59 H59 G59 (fits_nar_byte _) W60 21 rfl (by simp only [List.length_set, hl]; decide)
  refine own_st (fun u_ k_ => st60 u_ k_) ?_
  show own_Go p e below _ (T60.setTop (mkF m 64 #[.val (.ref b), .val (.int (16 : Int32)), .val (.long v64), .second] []))
  refine own_st (fun u_ k_ => XS.aloadN X60.here hx rfl (hb hby own_d_method_3_64) rfl rfl k_) ?_
  show own_Go p e below _ (T60.setTop (mkF m 65 #[.val (.ref b), .val (.int (16 : Int32)), .val (.long v64), .second] [(.ref b)]))
  refine own_st (fun u_ k_ => XS.iloadN X60.here hx rfl (hb hby own_d_method_3_65) rfl k_) ?_
  show own_Go p e below _ (T60.setTop (mkF m 66 #[.val (.ref b), .val (.int (16 : Int32)), .val (.long v64), .second] [(.int (16 : Int32)), (.ref b)]))
  refine own_st (fun u_ k_ => XS.bipush X60.here hx rfl (hb hby own_d_method_3_66) k_) ?_
  show own_Go p e below _ (T60.setTop (mkF m 68 #[.val (.ref b), .val (.int (16 : Int32)), .val (.long v64), .second] [(.int (6 : Int32)), (.int (16 : Int32)), (.ref b)]))
  refine own_st (fun u_ k_ => XS.iadd X60.here hx rfl (hb hby own_d_method_3_68) rfl k_) ?_
  show own_Go p e below _ (T60.setTop (mkF m 69 #[.val (.ref b), .val (.int (16 : Int32)), .val (.long v64), .second] [(.int (22 : Int32)), (.ref b)]))
  refine own_st (fun u_ k_ => XS.lloadN X60.here hx rfl (hb hby own_d_method_3_69) rfl k_) ?_
  show own_Go p e below _ (T60.setTop (mkF m 70 #[.val (.ref b), .val (.int (16 : Int32)), .val (.long v64), .second] [(.long v64), (.int (22 : Int32)), (.ref b)]))
  refine own_st (fun u_ k_ => XS.bipush X60.here hx rfl (hb hby own_d_method_3_70) k_) ?_
  show own_Go p e below _ (T60.setTop (mkF m 72 #[.val (.ref b), .val (.int (16 : Int32)), .val (.long v64), .second] [(.int (8 : Int32)), (.long v64), (.int (22 : Int32)), (.ref b)]))
  refine own_st (fun u_ k_ => XS.lushr X60.here hx rfl (hb hby own_d_method_3_72) rfl k_) ?_
  show own_Go p e below _ (T60.setTop (mkF m 73 #[.val (.ref b), .val (.int (16 : Int32)), .val (.long v64), .second] [(.long ((v64.toUInt64 >>> ((8 : Int32) &&& 0x3f).toInt64.toUInt64).toInt64)), (.int (22 : Int32)), (.ref b)]))
  refine own_st (fun u_ k_ => XS.l2i X60.here hx rfl (hb hby own_d_method_3_73) rfl k_) ?_
  show own_Go p e below _ (T60.setTop (mkF m 74 #[.val (.ref b), .val (.int (16 : Int32)), .val (.long v64), .second] [(.int (((v64.toUInt64 >>> ((8 : Int32) &&& 0x3f).toInt64.toUInt64).toInt64).toInt32)), (.int (22 : Int32)), (.ref b)]))
  refine own_st (fun u_ k_ => XS.i2b X60.here hx rfl (hb hby own_d_method_3_74) rfl k_) ?_
  show own_Go p e below _ (T60.setTop (mkF m 75 #[.val (.ref b), .val (.int (16 : Int32)), .val (.long v64), .second] [(.int ((((v64.toUInt64 >>> ((8 : Int32) &&& 0x3f).toInt64.toUInt64).toInt64).toInt32).toInt8.toInt32)), (.int (22 : Int32)), (.ref b)]))
  obtain ⟨cl61, Ar61, q61, S61, N61, H61, G61⟩ := id V60
  have hi61 : ¬ ((22 : Int32) < 0 ∨ cl61.slots.size ≤ ((22 : Int32)).toNatClampNeg) := inb_of S61 ⟨by decide, own_lt37 hn (by decide)⟩
  obtain ⟨T62, h62, X62, e62, W62, st62⟩ := stB X60 hx hZ e60 Ar61 (j := (22 : Int32)) hi61 (g := (mkF m 75 #[.val (.ref b), .val (.int (16 : Int32)), .val (.long v64), .second] [(.int ((((v64.toUInt64 >>> ((8 : Int32) &&& 0x3f).toInt64.toUInt64).toInt64).toInt32).toInt8.toInt32)), (.int (22 : Int32)), (.ref b)])) rfl rfl (hb hby own_d_method_3_75)
  rw [own_bb] at W62
  have N62 := Fr.snoc X62 N60 gb
  have V62 : Arv Z h62 b kb .byte n (List.set (List.set (List.set (List.set (List.set (List.set (List.set vs 16 (.int ((((v64.toUInt64 >>> ((56 : Int32) &&& 0x3f).toInt64.toUInt64).toInt64).toInt32).toInt8.toInt32))) 17 (.int ((((v64.toUInt64 >>> ((48 : Int32) &&& 0x3f).toInt64.toUInt64).toInt64).toInt32).toInt8.toInt32))) 18 (.int ((((v64.toUInt64 >>> ((40 : Int32) &&& 0x3f).toInt64.toUInt64).toInt64).toInt32).toInt8.toInt32))) 19 (.int ((((v64.toUInt64 >>> ((32 : Int32) &&& 0x3f).toInt64.toUInt64).toInt64).toInt32).toInt8.toInt32))) 20 (.int ((((v64.toUInt64 >>> ((24 : Int32) &&& 0x3f).toInt64.toUInt64).toInt64).toInt32).toInt8.toInt32))) 21 (.int ((((v64.toUInt64 >>> ((16 : Int32) &&& 0x3f).toInt64.toUInt64).toInt64).toInt32).toInt8.toInt32))) 22 (.int ((((v64.toUInt64 >>> ((8 : Int32) &&& 0x3f).toInt64.toUInt64).toInt64).toInt32).toInt8.toInt32))) (.int (0 : Int32)) := Arv.set Ar61 q61 S61 N61 H61 G61 (fits_nar_byte _) W62 22 rfl (by simp only [List.length_set, hl]; decide)
  refine own_st (fun u_ k_ => st62 u_ k_) ?_
  show own_Go p e below _ (T62.setTop (mkF m 76 #[.val (.ref b), .val (.int (16 : Int32)), .val (.long v64), .second] []))
  refine own_st (fun u_ k_ => XS.aloadN X62.here hx rfl (hb hby own_d_method_3_76) rfl rfl k_) ?_
  show own_Go p e below _ (T62.setTop (mkF m 77 #[.val (.ref b), .val (.int (16 : Int32)), .val (.long v64), .second] [(.ref b)]))
  refine own_st (fun u_ k_ => XS.iloadN X62.here hx rfl (hb hby own_d_method_3_77) rfl k_) ?_
  show own_Go p e below _ (T62.setTop (mkF m 78 #[.val (.ref b), .val (.int (16 : Int32)), .val (.long v64), .second] [(.int (16 : Int32)), (.ref b)]))
  refine own_st (fun u_ k_ => XS.bipush X62.here hx rfl (hb hby own_d_method_3_78) k_) ?_
  show own_Go p e below _ (T62.setTop (mkF m 80 #[.val (.ref b), .val (.int (16 : Int32)), .val (.long v64), .second] [(.int (7 : Int32)), (.int (16 : Int32)), (.ref b)]))
  refine own_st (fun u_ k_ => XS.iadd X62.here hx rfl (hb hby own_d_method_3_80) rfl k_) ?_
  show own_Go p e below _ (T62.setTop (mkF m 81 #[.val (.ref b), .val (.int (16 : Int32)), .val (.long v64), .second] [(.int (23 : Int32)), (.ref b)]))
  refine own_st (fun u_ k_ => XS.lloadN X62.here hx rfl (hb hby own_d_method_3_81) rfl k_) ?_
  show own_Go p e below _ (T62.setTop (mkF m 82 #[.val (.ref b), .val (.int (16 : Int32)), .val (.long v64), .second] [(.long v64), (.int (23 : Int32)), (.ref b)]))
  refine own_st (fun u_ k_ => XS.l2i X62.here hx rfl (hb hby own_d_method_3_82) rfl k_) ?_
  show own_Go p e below _ (T62.setTop (mkF m 83 #[.val (.ref b), .val (.int (16 : Int32)), .val (.long v64), .second] [(.int (v64.toInt32)), (.int (23 : Int32)), (.ref b)]))
  refine own_st (fun u_ k_ => XS.i2b X62.here hx rfl (hb hby own_d_method_3_83) rfl k_) ?_
  show own_Go p e below _ (T62.setTop (mkF m 84 #[.val (.ref b), .val (.int (16 : Int32)), .val (.long v64), .second] [(.int ((v64.toInt32).toInt8.toInt32)), (.int (23 : Int32)), (.ref b)]))
  obtain ⟨cl63, Ar63, q63, S63, N63, H63, G63⟩ := id V62
  have hi63 : ¬ ((23 : Int32) < 0 ∨ cl63.slots.size ≤ ((23 : Int32)).toNatClampNeg) := inb_of S63 ⟨by decide, own_lt37 hn (by decide)⟩
  obtain ⟨T64, h64, X64, e64, W64, st64⟩ := stB X62 hx hZ e62 Ar63 (j := (23 : Int32)) hi63 (g := (mkF m 84 #[.val (.ref b), .val (.int (16 : Int32)), .val (.long v64), .second] [(.int ((v64.toInt32).toInt8.toInt32)), (.int (23 : Int32)), (.ref b)])) rfl rfl (hb hby own_d_method_3_84)
  rw [own_bb] at W64
  have N64 := Fr.snoc X64 N62 gb
  have V64 : Arv Z h64 b kb .byte n (List.set (List.set (List.set (List.set (List.set (List.set (List.set (List.set vs 16 (.int ((((v64.toUInt64 >>> ((56 : Int32) &&& 0x3f).toInt64.toUInt64).toInt64).toInt32).toInt8.toInt32))) 17 (.int ((((v64.toUInt64 >>> ((48 : Int32) &&& 0x3f).toInt64.toUInt64).toInt64).toInt32).toInt8.toInt32))) 18 (.int ((((v64.toUInt64 >>> ((40 : Int32) &&& 0x3f).toInt64.toUInt64).toInt64).toInt32).toInt8.toInt32))) 19 (.int ((((v64.toUInt64 >>> ((32 : Int32) &&& 0x3f).toInt64.toUInt64).toInt64).toInt32).toInt8.toInt32))) 20 (.int ((((v64.toUInt64 >>> ((24 : Int32) &&& 0x3f).toInt64.toUInt64).toInt64).toInt32).toInt8.toInt32))) 21 (.int ((((v64.toUInt64 >>> ((16 : Int32) &&& 0x3f).toInt64.toUInt64).toInt64).toInt32).toInt8.toInt32))) 22 (.int ((((v64.toUInt64 >>> ((8 : Int32) &&& 0x3f).toInt64.toUInt64).toInt64).toInt32).toInt8.toInt32))) 23 (.int ((v64.toInt32).toInt8.toInt32))) (.int (0 : Int32)) := Arv.set Ar63 q63 S63 N63 H63 G63 (fits_nar_byte _) W64 23 rfl (by simp only [List.length_set, hl]; decide)
  refine own_st (fun u_ k_ => st64 u_ k_) ?_
  show own_Go p e below _ (T64.setTop (mkF m 85 #[.val (.ref b), .val (.int (16 : Int32)), .val (.long v64), .second] []))
  have K65 : Keep h0 h50 [b] := (Keep.refl h0 [b]).wr W50 (Or.inl (List.mem_of_getElem? (i := 0) rfl))
  have K66 : Keep h0 h52 [b] := K65.wr W52 (Or.inl (List.mem_of_getElem? (i := 0) rfl))
  have K67 : Keep h0 h54 [b] := K66.wr W54 (Or.inl (List.mem_of_getElem? (i := 0) rfl))
  have K68 : Keep h0 h56 [b] := K67.wr W56 (Or.inl (List.mem_of_getElem? (i := 0) rfl))
  have K69 : Keep h0 h58 [b] := K68.wr W58 (Or.inl (List.mem_of_getElem? (i := 0) rfl))
  have K70 : Keep h0 h60 [b] := K69.wr W60 (Or.inl (List.mem_of_getElem? (i := 0) rfl))
  have K71 : Keep h0 h62 [b] := K70.wr W62 (Or.inl (List.mem_of_getElem? (i := 0) rfl))
  have K72 : Keep h0 h64 [b] := K71.wr W64 (Or.inl (List.mem_of_getElem? (i := 0) rfl))
  exact own_retV X64 hx hlk hret (hb hby own_d_method_3_85) (by decide) (by decide) (show QrmP16 Z we b kb n vs v64 h0 n0 none T64.heap _ from (by rw [e64]; exact ⟨rfl, N64, K72, V64⟩))
theorem own_ef_rmP24 (m : MethodId) (b : Addr) (n : Int32) (v64 : Int64)  : entryFrame m #[(.ref b), (.int (24 : Int32)), (.long v64)] 4 = mkF m 0 #[.val (.ref b), .val (.int (24 : Int32)), .val (.long v64), .second] [] := by first | (simp [entryFrame, mkF, argsToLocals, Value.category, maxLocals]; done) | rfl
def QrmP24 (Z : State) (we : Addr) (b : Addr) (kb : ClassId) (n : Int32) (vs : List Value) (v64 : Int64) (h0 : Heap) (n0 : Nat) (v : Option Value) (h : Heap) (L : List Loc) : Prop := v = none ∧ Fr n0 L ∧ Keep h0 h [b] ∧ Arv Z h b kb .byte n (own_put 24 vs (.int ((((v64.toUInt64 >>> ((56 : Int32) &&& 0x3f).toInt64.toUInt64).toInt64).toInt32).toInt8.toInt32)) (.int ((((v64.toUInt64 >>> ((48 : Int32) &&& 0x3f).toInt64.toUInt64).toInt64).toInt32).toInt8.toInt32)) (.int ((((v64.toUInt64 >>> ((40 : Int32) &&& 0x3f).toInt64.toUInt64).toInt64).toInt32).toInt8.toInt32)) (.int ((((v64.toUInt64 >>> ((32 : Int32) &&& 0x3f).toInt64.toUInt64).toInt64).toInt32).toInt8.toInt32)) (.int ((((v64.toUInt64 >>> ((24 : Int32) &&& 0x3f).toInt64.toUInt64).toInt64).toInt32).toInt8.toInt32)) (.int ((((v64.toUInt64 >>> ((16 : Int32) &&& 0x3f).toInt64.toUInt64).toInt64).toInt32).toInt8.toInt32)) (.int ((((v64.toUInt64 >>> ((8 : Int32) &&& 0x3f).toInt64.toUInt64).toInt64).toInt32).toInt8.toInt32)) (.int ((v64.toInt32).toInt8.toInt32))) (.int (0 : Int32))
set_option maxRecDepth 65536 in
set_option maxHeartbeats 40000000 in
theorem rmP24 (l : Launch) (Z : State) (a0 : Array Value) (hw : own_H a0 Z) (ws : List Jvm.Cond) (we : Addr) (hS : own_S Z we) (b : Addr) (kb : ClassId) (n : Int32) (vs : List Value) (v64 : Int64) (h0 : Heap) (n0 : Nat) (O0 : Old Z n0 h0) (V : Arv Z h0 b kb .byte n vs (.int (0 : Int32))) (gb : n0 ≤ b) (hl : vs.length = 64) (hn : ¬ n < (37 : Int32)) :
    own_Met l own_y_77 method_3_code 4 none ws ({ frames := 0, cells := 0, slots := 0, locals := 0 } : Room) Z h0 #[(.ref b), (.int (24 : Int32)), (.long v64)] (QrmP24 Z we b kb n vs v64 h0 n0) := by
  refine own_body (plainFor_of_name own_pn_78) ?_
  intro p e s m below meth c s₁ hx hby hml hown hnm hret hlk hZ e0 X0
  have N0 := Fr.nil n0
  refine own_st (fun u_ k_ => castTop (own_ef_rmP24 m b n v64) k_) ?_
  show own_Go p e below _ (s₁.setTop (mkF m 0 #[.val (.ref b), .val (.int (24 : Int32)), .val (.long v64), .second] []))
  refine own_st (fun u_ k_ => XS.aloadN X0.here hx rfl (hb hby own_d_method_3_0) rfl rfl k_) ?_
  show own_Go p e below _ (s₁.setTop (mkF m 1 #[.val (.ref b), .val (.int (24 : Int32)), .val (.long v64), .second] [(.ref b)]))
  refine own_st (fun u_ k_ => XS.iloadN X0.here hx rfl (hb hby own_d_method_3_1) rfl k_) ?_
  show own_Go p e below _ (s₁.setTop (mkF m 2 #[.val (.ref b), .val (.int (24 : Int32)), .val (.long v64), .second] [(.int (24 : Int32)), (.ref b)]))
  refine own_st (fun u_ k_ => XS.lloadN X0.here hx rfl (hb hby own_d_method_3_2) rfl k_) ?_
  show own_Go p e below _ (s₁.setTop (mkF m 3 #[.val (.ref b), .val (.int (24 : Int32)), .val (.long v64), .second] [(.long v64), (.int (24 : Int32)), (.ref b)]))
  refine own_st (fun u_ k_ => XS.bipush X0.here hx rfl (hb hby own_d_method_3_3) k_) ?_
  show own_Go p e below _ (s₁.setTop (mkF m 5 #[.val (.ref b), .val (.int (24 : Int32)), .val (.long v64), .second] [(.int (56 : Int32)), (.long v64), (.int (24 : Int32)), (.ref b)]))
  refine own_st (fun u_ k_ => XS.lushr X0.here hx rfl (hb hby own_d_method_3_5) rfl k_) ?_
  show own_Go p e below _ (s₁.setTop (mkF m 6 #[.val (.ref b), .val (.int (24 : Int32)), .val (.long v64), .second] [(.long ((v64.toUInt64 >>> ((56 : Int32) &&& 0x3f).toInt64.toUInt64).toInt64)), (.int (24 : Int32)), (.ref b)]))
  refine own_st (fun u_ k_ => XS.l2i X0.here hx rfl (hb hby own_d_method_3_6) rfl k_) ?_
  show own_Go p e below _ (s₁.setTop (mkF m 7 #[.val (.ref b), .val (.int (24 : Int32)), .val (.long v64), .second] [(.int (((v64.toUInt64 >>> ((56 : Int32) &&& 0x3f).toInt64.toUInt64).toInt64).toInt32)), (.int (24 : Int32)), (.ref b)]))
  refine own_st (fun u_ k_ => XS.i2b X0.here hx rfl (hb hby own_d_method_3_7) rfl k_) ?_
  show own_Go p e below _ (s₁.setTop (mkF m 8 #[.val (.ref b), .val (.int (24 : Int32)), .val (.long v64), .second] [(.int ((((v64.toUInt64 >>> ((56 : Int32) &&& 0x3f).toInt64.toUInt64).toInt64).toInt32).toInt8.toInt32)), (.int (24 : Int32)), (.ref b)]))
  obtain ⟨cl73, Ar73, q73, S73, N73, H73, G73⟩ := id V
  have hi73 : ¬ ((24 : Int32) < 0 ∨ cl73.slots.size ≤ ((24 : Int32)).toNatClampNeg) := inb_of S73 ⟨by decide, own_lt37 hn (by decide)⟩
  obtain ⟨T74, h74, X74, e74, W74, st74⟩ := stB X0 hx hZ e0 Ar73 (j := (24 : Int32)) hi73 (g := (mkF m 8 #[.val (.ref b), .val (.int (24 : Int32)), .val (.long v64), .second] [(.int ((((v64.toUInt64 >>> ((56 : Int32) &&& 0x3f).toInt64.toUInt64).toInt64).toInt32).toInt8.toInt32)), (.int (24 : Int32)), (.ref b)])) rfl rfl (hb hby own_d_method_3_8)
  rw [own_bb] at W74
  have N74 := Fr.snoc X74 N0 gb
  have V74 : Arv Z h74 b kb .byte n (List.set vs 24 (.int ((((v64.toUInt64 >>> ((56 : Int32) &&& 0x3f).toInt64.toUInt64).toInt64).toInt32).toInt8.toInt32))) (.int (0 : Int32)) := Arv.set Ar73 q73 S73 N73 H73 G73 (fits_nar_byte _) W74 24 rfl (by simp only [List.length_set, hl]; decide)
  refine own_st (fun u_ k_ => st74 u_ k_) ?_
  show own_Go p e below _ (T74.setTop (mkF m 9 #[.val (.ref b), .val (.int (24 : Int32)), .val (.long v64), .second] []))
  refine own_st (fun u_ k_ => XS.aloadN X74.here hx rfl (hb hby own_d_method_3_9) rfl rfl k_) ?_
  show own_Go p e below _ (T74.setTop (mkF m 10 #[.val (.ref b), .val (.int (24 : Int32)), .val (.long v64), .second] [(.ref b)]))
  refine own_st (fun u_ k_ => XS.iloadN X74.here hx rfl (hb hby own_d_method_3_10) rfl k_) ?_
  show own_Go p e below _ (T74.setTop (mkF m 11 #[.val (.ref b), .val (.int (24 : Int32)), .val (.long v64), .second] [(.int (24 : Int32)), (.ref b)]))
  refine own_st (fun u_ k_ => XS.iconst X74.here hx rfl (hb hby own_d_method_3_11) k_) ?_
  show own_Go p e below _ (T74.setTop (mkF m 12 #[.val (.ref b), .val (.int (24 : Int32)), .val (.long v64), .second] [(.int (1 : Int32)), (.int (24 : Int32)), (.ref b)]))
  refine own_st (fun u_ k_ => XS.iadd X74.here hx rfl (hb hby own_d_method_3_12) rfl k_) ?_
  show own_Go p e below _ (T74.setTop (mkF m 13 #[.val (.ref b), .val (.int (24 : Int32)), .val (.long v64), .second] [(.int (25 : Int32)), (.ref b)]))
  refine own_st (fun u_ k_ => XS.lloadN X74.here hx rfl (hb hby own_d_method_3_13) rfl k_) ?_
  show own_Go p e below _ (T74.setTop (mkF m 14 #[.val (.ref b), .val (.int (24 : Int32)), .val (.long v64), .second] [(.long v64), (.int (25 : Int32)), (.ref b)]))
  refine own_st (fun u_ k_ => XS.bipush X74.here hx rfl (hb hby own_d_method_3_14) k_) ?_
  show own_Go p e below _ (T74.setTop (mkF m 16 #[.val (.ref b), .val (.int (24 : Int32)), .val (.long v64), .second] [(.int (48 : Int32)), (.long v64), (.int (25 : Int32)), (.ref b)]))
  refine own_st (fun u_ k_ => XS.lushr X74.here hx rfl (hb hby own_d_method_3_16) rfl k_) ?_
  show own_Go p e below _ (T74.setTop (mkF m 17 #[.val (.ref b), .val (.int (24 : Int32)), .val (.long v64), .second] [(.long ((v64.toUInt64 >>> ((48 : Int32) &&& 0x3f).toInt64.toUInt64).toInt64)), (.int (25 : Int32)), (.ref b)]))
  refine own_st (fun u_ k_ => XS.l2i X74.here hx rfl (hb hby own_d_method_3_17) rfl k_) ?_
  show own_Go p e below _ (T74.setTop (mkF m 18 #[.val (.ref b), .val (.int (24 : Int32)), .val (.long v64), .second] [(.int (((v64.toUInt64 >>> ((48 : Int32) &&& 0x3f).toInt64.toUInt64).toInt64).toInt32)), (.int (25 : Int32)), (.ref b)]))
  refine own_st (fun u_ k_ => XS.i2b X74.here hx rfl (hb hby own_d_method_3_18) rfl k_) ?_
  show own_Go p e below _ (T74.setTop (mkF m 19 #[.val (.ref b), .val (.int (24 : Int32)), .val (.long v64), .second] [(.int ((((v64.toUInt64 >>> ((48 : Int32) &&& 0x3f).toInt64.toUInt64).toInt64).toInt32).toInt8.toInt32)), (.int (25 : Int32)), (.ref b)]))
  obtain ⟨cl75, Ar75, q75, S75, N75, H75, G75⟩ := id V74
  have hi75 : ¬ ((25 : Int32) < 0 ∨ cl75.slots.size ≤ ((25 : Int32)).toNatClampNeg) := inb_of S75 ⟨by decide, own_lt37 hn (by decide)⟩
  obtain ⟨T76, h76, X76, e76, W76, st76⟩ := stB X74 hx hZ e74 Ar75 (j := (25 : Int32)) hi75 (g := (mkF m 19 #[.val (.ref b), .val (.int (24 : Int32)), .val (.long v64), .second] [(.int ((((v64.toUInt64 >>> ((48 : Int32) &&& 0x3f).toInt64.toUInt64).toInt64).toInt32).toInt8.toInt32)), (.int (25 : Int32)), (.ref b)])) rfl rfl (hb hby own_d_method_3_19)
  rw [own_bb] at W76
  have N76 := Fr.snoc X76 N74 gb
  have V76 : Arv Z h76 b kb .byte n (List.set (List.set vs 24 (.int ((((v64.toUInt64 >>> ((56 : Int32) &&& 0x3f).toInt64.toUInt64).toInt64).toInt32).toInt8.toInt32))) 25 (.int ((((v64.toUInt64 >>> ((48 : Int32) &&& 0x3f).toInt64.toUInt64).toInt64).toInt32).toInt8.toInt32))) (.int (0 : Int32)) := Arv.set Ar75 q75 S75 N75 H75 G75 (fits_nar_byte _) W76 25 rfl (by simp only [List.length_set, hl]; decide)
  refine own_st (fun u_ k_ => st76 u_ k_) ?_
  show own_Go p e below _ (T76.setTop (mkF m 20 #[.val (.ref b), .val (.int (24 : Int32)), .val (.long v64), .second] []))
  refine own_st (fun u_ k_ => XS.aloadN X76.here hx rfl (hb hby own_d_method_3_20) rfl rfl k_) ?_
  show own_Go p e below _ (T76.setTop (mkF m 21 #[.val (.ref b), .val (.int (24 : Int32)), .val (.long v64), .second] [(.ref b)]))
  refine own_st (fun u_ k_ => XS.iloadN X76.here hx rfl (hb hby own_d_method_3_21) rfl k_) ?_
  show own_Go p e below _ (T76.setTop (mkF m 22 #[.val (.ref b), .val (.int (24 : Int32)), .val (.long v64), .second] [(.int (24 : Int32)), (.ref b)]))
  refine own_st (fun u_ k_ => XS.iconst X76.here hx rfl (hb hby own_d_method_3_22) k_) ?_
  show own_Go p e below _ (T76.setTop (mkF m 23 #[.val (.ref b), .val (.int (24 : Int32)), .val (.long v64), .second] [(.int (2 : Int32)), (.int (24 : Int32)), (.ref b)]))
  refine own_st (fun u_ k_ => XS.iadd X76.here hx rfl (hb hby own_d_method_3_23) rfl k_) ?_
  show own_Go p e below _ (T76.setTop (mkF m 24 #[.val (.ref b), .val (.int (24 : Int32)), .val (.long v64), .second] [(.int (26 : Int32)), (.ref b)]))
  refine own_st (fun u_ k_ => XS.lloadN X76.here hx rfl (hb hby own_d_method_3_24) rfl k_) ?_
  show own_Go p e below _ (T76.setTop (mkF m 25 #[.val (.ref b), .val (.int (24 : Int32)), .val (.long v64), .second] [(.long v64), (.int (26 : Int32)), (.ref b)]))
  refine own_st (fun u_ k_ => XS.bipush X76.here hx rfl (hb hby own_d_method_3_25) k_) ?_
  show own_Go p e below _ (T76.setTop (mkF m 27 #[.val (.ref b), .val (.int (24 : Int32)), .val (.long v64), .second] [(.int (40 : Int32)), (.long v64), (.int (26 : Int32)), (.ref b)]))
  refine own_st (fun u_ k_ => XS.lushr X76.here hx rfl (hb hby own_d_method_3_27) rfl k_) ?_
  show own_Go p e below _ (T76.setTop (mkF m 28 #[.val (.ref b), .val (.int (24 : Int32)), .val (.long v64), .second] [(.long ((v64.toUInt64 >>> ((40 : Int32) &&& 0x3f).toInt64.toUInt64).toInt64)), (.int (26 : Int32)), (.ref b)]))
  refine own_st (fun u_ k_ => XS.l2i X76.here hx rfl (hb hby own_d_method_3_28) rfl k_) ?_
  show own_Go p e below _ (T76.setTop (mkF m 29 #[.val (.ref b), .val (.int (24 : Int32)), .val (.long v64), .second] [(.int (((v64.toUInt64 >>> ((40 : Int32) &&& 0x3f).toInt64.toUInt64).toInt64).toInt32)), (.int (26 : Int32)), (.ref b)]))
  refine own_st (fun u_ k_ => XS.i2b X76.here hx rfl (hb hby own_d_method_3_29) rfl k_) ?_
  show own_Go p e below _ (T76.setTop (mkF m 30 #[.val (.ref b), .val (.int (24 : Int32)), .val (.long v64), .second] [(.int ((((v64.toUInt64 >>> ((40 : Int32) &&& 0x3f).toInt64.toUInt64).toInt64).toInt32).toInt8.toInt32)), (.int (26 : Int32)), (.ref b)]))
  obtain ⟨cl77, Ar77, q77, S77, N77, H77, G77⟩ := id V76
  have hi77 : ¬ ((26 : Int32) < 0 ∨ cl77.slots.size ≤ ((26 : Int32)).toNatClampNeg) := inb_of S77 ⟨by decide, own_lt37 hn (by decide)⟩
  obtain ⟨T78, h78, X78, e78, W78, st78⟩ := stB X76 hx hZ e76 Ar77 (j := (26 : Int32)) hi77 (g := (mkF m 30 #[.val (.ref b), .val (.int (24 : Int32)), .val (.long v64), .second] [(.int ((((v64.toUInt64 >>> ((40 : Int32) &&& 0x3f).toInt64.toUInt64).toInt64).toInt32).toInt8.toInt32)), (.int (26 : Int32)), (.ref b)])) rfl rfl (hb hby own_d_method_3_30)
  rw [own_bb] at W78
  have N78 := Fr.snoc X78 N76 gb
  have V78 : Arv Z h78 b kb .byte n (List.set (List.set (List.set vs 24 (.int ((((v64.toUInt64 >>> ((56 : Int32) &&& 0x3f).toInt64.toUInt64).toInt64).toInt32).toInt8.toInt32))) 25 (.int ((((v64.toUInt64 >>> ((48 : Int32) &&& 0x3f).toInt64.toUInt64).toInt64).toInt32).toInt8.toInt32))) 26 (.int ((((v64.toUInt64 >>> ((40 : Int32) &&& 0x3f).toInt64.toUInt64).toInt64).toInt32).toInt8.toInt32))) (.int (0 : Int32)) := Arv.set Ar77 q77 S77 N77 H77 G77 (fits_nar_byte _) W78 26 rfl (by simp only [List.length_set, hl]; decide)
  refine own_st (fun u_ k_ => st78 u_ k_) ?_
  show own_Go p e below _ (T78.setTop (mkF m 31 #[.val (.ref b), .val (.int (24 : Int32)), .val (.long v64), .second] []))
  refine own_st (fun u_ k_ => XS.aloadN X78.here hx rfl (hb hby own_d_method_3_31) rfl rfl k_) ?_
  show own_Go p e below _ (T78.setTop (mkF m 32 #[.val (.ref b), .val (.int (24 : Int32)), .val (.long v64), .second] [(.ref b)]))
  refine own_st (fun u_ k_ => XS.iloadN X78.here hx rfl (hb hby own_d_method_3_32) rfl k_) ?_
  show own_Go p e below _ (T78.setTop (mkF m 33 #[.val (.ref b), .val (.int (24 : Int32)), .val (.long v64), .second] [(.int (24 : Int32)), (.ref b)]))
  refine own_st (fun u_ k_ => XS.iconst X78.here hx rfl (hb hby own_d_method_3_33) k_) ?_
  show own_Go p e below _ (T78.setTop (mkF m 34 #[.val (.ref b), .val (.int (24 : Int32)), .val (.long v64), .second] [(.int (3 : Int32)), (.int (24 : Int32)), (.ref b)]))
  refine own_st (fun u_ k_ => XS.iadd X78.here hx rfl (hb hby own_d_method_3_34) rfl k_) ?_
  show own_Go p e below _ (T78.setTop (mkF m 35 #[.val (.ref b), .val (.int (24 : Int32)), .val (.long v64), .second] [(.int (27 : Int32)), (.ref b)]))
  refine own_st (fun u_ k_ => XS.lloadN X78.here hx rfl (hb hby own_d_method_3_35) rfl k_) ?_
  show own_Go p e below _ (T78.setTop (mkF m 36 #[.val (.ref b), .val (.int (24 : Int32)), .val (.long v64), .second] [(.long v64), (.int (27 : Int32)), (.ref b)]))
  refine own_st (fun u_ k_ => XS.bipush X78.here hx rfl (hb hby own_d_method_3_36) k_) ?_
  show own_Go p e below _ (T78.setTop (mkF m 38 #[.val (.ref b), .val (.int (24 : Int32)), .val (.long v64), .second] [(.int (32 : Int32)), (.long v64), (.int (27 : Int32)), (.ref b)]))
  refine own_st (fun u_ k_ => XS.lushr X78.here hx rfl (hb hby own_d_method_3_38) rfl k_) ?_
  show own_Go p e below _ (T78.setTop (mkF m 39 #[.val (.ref b), .val (.int (24 : Int32)), .val (.long v64), .second] [(.long ((v64.toUInt64 >>> ((32 : Int32) &&& 0x3f).toInt64.toUInt64).toInt64)), (.int (27 : Int32)), (.ref b)]))
  refine own_st (fun u_ k_ => XS.l2i X78.here hx rfl (hb hby own_d_method_3_39) rfl k_) ?_
  show own_Go p e below _ (T78.setTop (mkF m 40 #[.val (.ref b), .val (.int (24 : Int32)), .val (.long v64), .second] [(.int (((v64.toUInt64 >>> ((32 : Int32) &&& 0x3f).toInt64.toUInt64).toInt64).toInt32)), (.int (27 : Int32)), (.ref b)]))
  refine own_st (fun u_ k_ => XS.i2b X78.here hx rfl (hb hby own_d_method_3_40) rfl k_) ?_
  show own_Go p e below _ (T78.setTop (mkF m 41 #[.val (.ref b), .val (.int (24 : Int32)), .val (.long v64), .second] [(.int ((((v64.toUInt64 >>> ((32 : Int32) &&& 0x3f).toInt64.toUInt64).toInt64).toInt32).toInt8.toInt32)), (.int (27 : Int32)), (.ref b)]))
  obtain ⟨cl79, Ar79, q79, S79, N79, H79, G79⟩ := id V78
  have hi79 : ¬ ((27 : Int32) < 0 ∨ cl79.slots.size ≤ ((27 : Int32)).toNatClampNeg) := inb_of S79 ⟨by decide, own_lt37 hn (by decide)⟩
  obtain ⟨T80, h80, X80, e80, W80, st80⟩ := stB X78 hx hZ e78 Ar79 (j := (27 : Int32)) hi79 (g := (mkF m 41 #[.val (.ref b), .val (.int (24 : Int32)), .val (.long v64), .second] [(.int ((((v64.toUInt64 >>> ((32 : Int32) &&& 0x3f).toInt64.toUInt64).toInt64).toInt32).toInt8.toInt32)), (.int (27 : Int32)), (.ref b)])) rfl rfl (hb hby own_d_method_3_41)
  rw [own_bb] at W80
  have N80 := Fr.snoc X80 N78 gb
  have V80 : Arv Z h80 b kb .byte n (List.set (List.set (List.set (List.set vs 24 (.int ((((v64.toUInt64 >>> ((56 : Int32) &&& 0x3f).toInt64.toUInt64).toInt64).toInt32).toInt8.toInt32))) 25 (.int ((((v64.toUInt64 >>> ((48 : Int32) &&& 0x3f).toInt64.toUInt64).toInt64).toInt32).toInt8.toInt32))) 26 (.int ((((v64.toUInt64 >>> ((40 : Int32) &&& 0x3f).toInt64.toUInt64).toInt64).toInt32).toInt8.toInt32))) 27 (.int ((((v64.toUInt64 >>> ((32 : Int32) &&& 0x3f).toInt64.toUInt64).toInt64).toInt32).toInt8.toInt32))) (.int (0 : Int32)) := Arv.set Ar79 q79 S79 N79 H79 G79 (fits_nar_byte _) W80 27 rfl (by simp only [List.length_set, hl]; decide)
  refine own_st (fun u_ k_ => st80 u_ k_) ?_
  show own_Go p e below _ (T80.setTop (mkF m 42 #[.val (.ref b), .val (.int (24 : Int32)), .val (.long v64), .second] []))
  refine own_st (fun u_ k_ => XS.aloadN X80.here hx rfl (hb hby own_d_method_3_42) rfl rfl k_) ?_
  show own_Go p e below _ (T80.setTop (mkF m 43 #[.val (.ref b), .val (.int (24 : Int32)), .val (.long v64), .second] [(.ref b)]))
  refine own_st (fun u_ k_ => XS.iloadN X80.here hx rfl (hb hby own_d_method_3_43) rfl k_) ?_
  show own_Go p e below _ (T80.setTop (mkF m 44 #[.val (.ref b), .val (.int (24 : Int32)), .val (.long v64), .second] [(.int (24 : Int32)), (.ref b)]))
  refine own_st (fun u_ k_ => XS.iconst X80.here hx rfl (hb hby own_d_method_3_44) k_) ?_
  show own_Go p e below _ (T80.setTop (mkF m 45 #[.val (.ref b), .val (.int (24 : Int32)), .val (.long v64), .second] [(.int (4 : Int32)), (.int (24 : Int32)), (.ref b)]))
  refine own_st (fun u_ k_ => XS.iadd X80.here hx rfl (hb hby own_d_method_3_45) rfl k_) ?_
  show own_Go p e below _ (T80.setTop (mkF m 46 #[.val (.ref b), .val (.int (24 : Int32)), .val (.long v64), .second] [(.int (28 : Int32)), (.ref b)]))
  refine own_st (fun u_ k_ => XS.lloadN X80.here hx rfl (hb hby own_d_method_3_46) rfl k_) ?_
  show own_Go p e below _ (T80.setTop (mkF m 47 #[.val (.ref b), .val (.int (24 : Int32)), .val (.long v64), .second] [(.long v64), (.int (28 : Int32)), (.ref b)]))
  refine own_st (fun u_ k_ => XS.bipush X80.here hx rfl (hb hby own_d_method_3_47) k_) ?_
  show own_Go p e below _ (T80.setTop (mkF m 49 #[.val (.ref b), .val (.int (24 : Int32)), .val (.long v64), .second] [(.int (24 : Int32)), (.long v64), (.int (28 : Int32)), (.ref b)]))
  refine own_st (fun u_ k_ => XS.lushr X80.here hx rfl (hb hby own_d_method_3_49) rfl k_) ?_
  show own_Go p e below _ (T80.setTop (mkF m 50 #[.val (.ref b), .val (.int (24 : Int32)), .val (.long v64), .second] [(.long ((v64.toUInt64 >>> ((24 : Int32) &&& 0x3f).toInt64.toUInt64).toInt64)), (.int (28 : Int32)), (.ref b)]))
  refine own_st (fun u_ k_ => XS.l2i X80.here hx rfl (hb hby own_d_method_3_50) rfl k_) ?_
  show own_Go p e below _ (T80.setTop (mkF m 51 #[.val (.ref b), .val (.int (24 : Int32)), .val (.long v64), .second] [(.int (((v64.toUInt64 >>> ((24 : Int32) &&& 0x3f).toInt64.toUInt64).toInt64).toInt32)), (.int (28 : Int32)), (.ref b)]))
  refine own_st (fun u_ k_ => XS.i2b X80.here hx rfl (hb hby own_d_method_3_51) rfl k_) ?_
  show own_Go p e below _ (T80.setTop (mkF m 52 #[.val (.ref b), .val (.int (24 : Int32)), .val (.long v64), .second] [(.int ((((v64.toUInt64 >>> ((24 : Int32) &&& 0x3f).toInt64.toUInt64).toInt64).toInt32).toInt8.toInt32)), (.int (28 : Int32)), (.ref b)]))
  obtain ⟨cl81, Ar81, q81, S81, N81, H81, G81⟩ := id V80
  have hi81 : ¬ ((28 : Int32) < 0 ∨ cl81.slots.size ≤ ((28 : Int32)).toNatClampNeg) := inb_of S81 ⟨by decide, own_lt37 hn (by decide)⟩
  obtain ⟨T82, h82, X82, e82, W82, st82⟩ := stB X80 hx hZ e80 Ar81 (j := (28 : Int32)) hi81 (g := (mkF m 52 #[.val (.ref b), .val (.int (24 : Int32)), .val (.long v64), .second] [(.int ((((v64.toUInt64 >>> ((24 : Int32) &&& 0x3f).toInt64.toUInt64).toInt64).toInt32).toInt8.toInt32)), (.int (28 : Int32)), (.ref b)])) rfl rfl (hb hby own_d_method_3_52)
  rw [own_bb] at W82
  have N82 := Fr.snoc X82 N80 gb
  have V82 : Arv Z h82 b kb .byte n (List.set (List.set (List.set (List.set (List.set vs 24 (.int ((((v64.toUInt64 >>> ((56 : Int32) &&& 0x3f).toInt64.toUInt64).toInt64).toInt32).toInt8.toInt32))) 25 (.int ((((v64.toUInt64 >>> ((48 : Int32) &&& 0x3f).toInt64.toUInt64).toInt64).toInt32).toInt8.toInt32))) 26 (.int ((((v64.toUInt64 >>> ((40 : Int32) &&& 0x3f).toInt64.toUInt64).toInt64).toInt32).toInt8.toInt32))) 27 (.int ((((v64.toUInt64 >>> ((32 : Int32) &&& 0x3f).toInt64.toUInt64).toInt64).toInt32).toInt8.toInt32))) 28 (.int ((((v64.toUInt64 >>> ((24 : Int32) &&& 0x3f).toInt64.toUInt64).toInt64).toInt32).toInt8.toInt32))) (.int (0 : Int32)) := Arv.set Ar81 q81 S81 N81 H81 G81 (fits_nar_byte _) W82 28 rfl (by simp only [List.length_set, hl]; decide)
  refine own_st (fun u_ k_ => st82 u_ k_) ?_
  show own_Go p e below _ (T82.setTop (mkF m 53 #[.val (.ref b), .val (.int (24 : Int32)), .val (.long v64), .second] []))
  refine own_st (fun u_ k_ => XS.aloadN X82.here hx rfl (hb hby own_d_method_3_53) rfl rfl k_) ?_
  show own_Go p e below _ (T82.setTop (mkF m 54 #[.val (.ref b), .val (.int (24 : Int32)), .val (.long v64), .second] [(.ref b)]))
  refine own_st (fun u_ k_ => XS.iloadN X82.here hx rfl (hb hby own_d_method_3_54) rfl k_) ?_
  show own_Go p e below _ (T82.setTop (mkF m 55 #[.val (.ref b), .val (.int (24 : Int32)), .val (.long v64), .second] [(.int (24 : Int32)), (.ref b)]))
  refine own_st (fun u_ k_ => XS.iconst X82.here hx rfl (hb hby own_d_method_3_55) k_) ?_
  show own_Go p e below _ (T82.setTop (mkF m 56 #[.val (.ref b), .val (.int (24 : Int32)), .val (.long v64), .second] [(.int (5 : Int32)), (.int (24 : Int32)), (.ref b)]))
  refine own_st (fun u_ k_ => XS.iadd X82.here hx rfl (hb hby own_d_method_3_56) rfl k_) ?_
  show own_Go p e below _ (T82.setTop (mkF m 57 #[.val (.ref b), .val (.int (24 : Int32)), .val (.long v64), .second] [(.int (29 : Int32)), (.ref b)]))
  refine own_st (fun u_ k_ => XS.lloadN X82.here hx rfl (hb hby own_d_method_3_57) rfl k_) ?_
  show own_Go p e below _ (T82.setTop (mkF m 58 #[.val (.ref b), .val (.int (24 : Int32)), .val (.long v64), .second] [(.long v64), (.int (29 : Int32)), (.ref b)]))
  refine own_st (fun u_ k_ => XS.bipush X82.here hx rfl (hb hby own_d_method_3_58) k_) ?_
  show own_Go p e below _ (T82.setTop (mkF m 60 #[.val (.ref b), .val (.int (24 : Int32)), .val (.long v64), .second] [(.int (16 : Int32)), (.long v64), (.int (29 : Int32)), (.ref b)]))
  refine own_st (fun u_ k_ => XS.lushr X82.here hx rfl (hb hby own_d_method_3_60) rfl k_) ?_
  show own_Go p e below _ (T82.setTop (mkF m 61 #[.val (.ref b), .val (.int (24 : Int32)), .val (.long v64), .second] [(.long ((v64.toUInt64 >>> ((16 : Int32) &&& 0x3f).toInt64.toUInt64).toInt64)), (.int (29 : Int32)), (.ref b)]))
  refine own_st (fun u_ k_ => XS.l2i X82.here hx rfl (hb hby own_d_method_3_61) rfl k_) ?_
  show own_Go p e below _ (T82.setTop (mkF m 62 #[.val (.ref b), .val (.int (24 : Int32)), .val (.long v64), .second] [(.int (((v64.toUInt64 >>> ((16 : Int32) &&& 0x3f).toInt64.toUInt64).toInt64).toInt32)), (.int (29 : Int32)), (.ref b)]))
  refine own_st (fun u_ k_ => XS.i2b X82.here hx rfl (hb hby own_d_method_3_62) rfl k_) ?_
  show own_Go p e below _ (T82.setTop (mkF m 63 #[.val (.ref b), .val (.int (24 : Int32)), .val (.long v64), .second] [(.int ((((v64.toUInt64 >>> ((16 : Int32) &&& 0x3f).toInt64.toUInt64).toInt64).toInt32).toInt8.toInt32)), (.int (29 : Int32)), (.ref b)]))
  obtain ⟨cl83, Ar83, q83, S83, N83, H83, G83⟩ := id V82
  have hi83 : ¬ ((29 : Int32) < 0 ∨ cl83.slots.size ≤ ((29 : Int32)).toNatClampNeg) := inb_of S83 ⟨by decide, own_lt37 hn (by decide)⟩
  obtain ⟨T84, h84, X84, e84, W84, st84⟩ := stB X82 hx hZ e82 Ar83 (j := (29 : Int32)) hi83 (g := (mkF m 63 #[.val (.ref b), .val (.int (24 : Int32)), .val (.long v64), .second] [(.int ((((v64.toUInt64 >>> ((16 : Int32) &&& 0x3f).toInt64.toUInt64).toInt64).toInt32).toInt8.toInt32)), (.int (29 : Int32)), (.ref b)])) rfl rfl (hb hby own_d_method_3_63)
  rw [own_bb] at W84
  have N84 := Fr.snoc X84 N82 gb
  have V84 : Arv Z h84 b kb .byte n (List.set (List.set (List.set (List.set (List.set (List.set vs 24 (.int ((((v64.toUInt64 >>> ((56 : Int32) &&& 0x3f).toInt64.toUInt64).toInt64).toInt32).toInt8.toInt32))) 25 (.int ((((v64.toUInt64 >>> ((48 : Int32) &&& 0x3f).toInt64.toUInt64).toInt64).toInt32).toInt8.toInt32))) 26 (.int ((((v64.toUInt64 >>> ((40 : Int32) &&& 0x3f).toInt64.toUInt64).toInt64).toInt32).toInt8.toInt32))) 27 (.int ((((v64.toUInt64 >>> ((32 : Int32) &&& 0x3f).toInt64.toUInt64).toInt64).toInt32).toInt8.toInt32))) 28 (.int ((((v64.toUInt64 >>> ((24 : Int32) &&& 0x3f).toInt64.toUInt64).toInt64).toInt32).toInt8.toInt32))) 29 (.int ((((v64.toUInt64 >>> ((16 : Int32) &&& 0x3f).toInt64.toUInt64).toInt64).toInt32).toInt8.toInt32))) (.int (0 : Int32)) := Arv.set Ar83 q83 S83 N83 H83 G83 (fits_nar_byte _) W84 29 rfl (by simp only [List.length_set, hl]; decide)
  refine own_st (fun u_ k_ => st84 u_ k_) ?_
  show own_Go p e below _ (T84.setTop (mkF m 64 #[.val (.ref b), .val (.int (24 : Int32)), .val (.long v64), .second] []))
  refine own_st (fun u_ k_ => XS.aloadN X84.here hx rfl (hb hby own_d_method_3_64) rfl rfl k_) ?_
  show own_Go p e below _ (T84.setTop (mkF m 65 #[.val (.ref b), .val (.int (24 : Int32)), .val (.long v64), .second] [(.ref b)]))
  refine own_st (fun u_ k_ => XS.iloadN X84.here hx rfl (hb hby own_d_method_3_65) rfl k_) ?_
  show own_Go p e below _ (T84.setTop (mkF m 66 #[.val (.ref b), .val (.int (24 : Int32)), .val (.long v64), .second] [(.int (24 : Int32)), (.ref b)]))
  refine own_st (fun u_ k_ => XS.bipush X84.here hx rfl (hb hby own_d_method_3_66) k_) ?_
  show own_Go p e below _ (T84.setTop (mkF m 68 #[.val (.ref b), .val (.int (24 : Int32)), .val (.long v64), .second] [(.int (6 : Int32)), (.int (24 : Int32)), (.ref b)]))
  refine own_st (fun u_ k_ => XS.iadd X84.here hx rfl (hb hby own_d_method_3_68) rfl k_) ?_
  show own_Go p e below _ (T84.setTop (mkF m 69 #[.val (.ref b), .val (.int (24 : Int32)), .val (.long v64), .second] [(.int (30 : Int32)), (.ref b)]))
  refine own_st (fun u_ k_ => XS.lloadN X84.here hx rfl (hb hby own_d_method_3_69) rfl k_) ?_
  show own_Go p e below _ (T84.setTop (mkF m 70 #[.val (.ref b), .val (.int (24 : Int32)), .val (.long v64), .second] [(.long v64), (.int (30 : Int32)), (.ref b)]))
  refine own_st (fun u_ k_ => XS.bipush X84.here hx rfl (hb hby own_d_method_3_70) k_) ?_
  show own_Go p e below _ (T84.setTop (mkF m 72 #[.val (.ref b), .val (.int (24 : Int32)), .val (.long v64), .second] [(.int (8 : Int32)), (.long v64), (.int (30 : Int32)), (.ref b)]))
  refine own_st (fun u_ k_ => XS.lushr X84.here hx rfl (hb hby own_d_method_3_72) rfl k_) ?_
  show own_Go p e below _ (T84.setTop (mkF m 73 #[.val (.ref b), .val (.int (24 : Int32)), .val (.long v64), .second] [(.long ((v64.toUInt64 >>> ((8 : Int32) &&& 0x3f).toInt64.toUInt64).toInt64)), (.int (30 : Int32)), (.ref b)]))
  refine own_st (fun u_ k_ => XS.l2i X84.here hx rfl (hb hby own_d_method_3_73) rfl k_) ?_
  show own_Go p e below _ (T84.setTop (mkF m 74 #[.val (.ref b), .val (.int (24 : Int32)), .val (.long v64), .second] [(.int (((v64.toUInt64 >>> ((8 : Int32) &&& 0x3f).toInt64.toUInt64).toInt64).toInt32)), (.int (30 : Int32)), (.ref b)]))
  refine own_st (fun u_ k_ => XS.i2b X84.here hx rfl (hb hby own_d_method_3_74) rfl k_) ?_
  show own_Go p e below _ (T84.setTop (mkF m 75 #[.val (.ref b), .val (.int (24 : Int32)), .val (.long v64), .second] [(.int ((((v64.toUInt64 >>> ((8 : Int32) &&& 0x3f).toInt64.toUInt64).toInt64).toInt32).toInt8.toInt32)), (.int (30 : Int32)), (.ref b)]))
  obtain ⟨cl85, Ar85, q85, S85, N85, H85, G85⟩ := id V84
  have hi85 : ¬ ((30 : Int32) < 0 ∨ cl85.slots.size ≤ ((30 : Int32)).toNatClampNeg) := inb_of S85 ⟨by decide, own_lt37 hn (by decide)⟩
  obtain ⟨T86, h86, X86, e86, W86, st86⟩ := stB X84 hx hZ e84 Ar85 (j := (30 : Int32)) hi85 (g := (mkF m 75 #[.val (.ref b), .val (.int (24 : Int32)), .val (.long v64), .second] [(.int ((((v64.toUInt64 >>> ((8 : Int32) &&& 0x3f).toInt64.toUInt64).toInt64).toInt32).toInt8.toInt32)), (.int (30 : Int32)), (.ref b)])) rfl rfl (hb hby own_d_method_3_75)
  rw [own_bb] at W86
  have N86 := Fr.snoc X86 N84 gb
  have V86 : Arv Z h86 b kb .byte n (List.set (List.set (List.set (List.set (List.set (List.set (List.set vs 24 (.int ((((v64.toUInt64 >>> ((56 : Int32) &&& 0x3f).toInt64.toUInt64).toInt64).toInt32).toInt8.toInt32))) 25 (.int ((((v64.toUInt64 >>> ((48 : Int32) &&& 0x3f).toInt64.toUInt64).toInt64).toInt32).toInt8.toInt32))) 26 (.int ((((v64.toUInt64 >>> ((40 : Int32) &&& 0x3f).toInt64.toUInt64).toInt64).toInt32).toInt8.toInt32))) 27 (.int ((((v64.toUInt64 >>> ((32 : Int32) &&& 0x3f).toInt64.toUInt64).toInt64).toInt32).toInt8.toInt32))) 28 (.int ((((v64.toUInt64 >>> ((24 : Int32) &&& 0x3f).toInt64.toUInt64).toInt64).toInt32).toInt8.toInt32))) 29 (.int ((((v64.toUInt64 >>> ((16 : Int32) &&& 0x3f).toInt64.toUInt64).toInt64).toInt32).toInt8.toInt32))) 30 (.int ((((v64.toUInt64 >>> ((8 : Int32) &&& 0x3f).toInt64.toUInt64).toInt64).toInt32).toInt8.toInt32))) (.int (0 : Int32)) := Arv.set Ar85 q85 S85 N85 H85 G85 (fits_nar_byte _) W86 30 rfl (by simp only [List.length_set, hl]; decide)
  refine own_st (fun u_ k_ => st86 u_ k_) ?_
  show own_Go p e below _ (T86.setTop (mkF m 76 #[.val (.ref b), .val (.int (24 : Int32)), .val (.long v64), .second] []))
  refine own_st (fun u_ k_ => XS.aloadN X86.here hx rfl (hb hby own_d_method_3_76) rfl rfl k_) ?_
  show own_Go p e below _ (T86.setTop (mkF m 77 #[.val (.ref b), .val (.int (24 : Int32)), .val (.long v64), .second] [(.ref b)]))
  refine own_st (fun u_ k_ => XS.iloadN X86.here hx rfl (hb hby own_d_method_3_77) rfl k_) ?_
  show own_Go p e below _ (T86.setTop (mkF m 78 #[.val (.ref b), .val (.int (24 : Int32)), .val (.long v64), .second] [(.int (24 : Int32)), (.ref b)]))
  refine own_st (fun u_ k_ => XS.bipush X86.here hx rfl (hb hby own_d_method_3_78) k_) ?_
  show own_Go p e below _ (T86.setTop (mkF m 80 #[.val (.ref b), .val (.int (24 : Int32)), .val (.long v64), .second] [(.int (7 : Int32)), (.int (24 : Int32)), (.ref b)]))
  refine own_st (fun u_ k_ => XS.iadd X86.here hx rfl (hb hby own_d_method_3_80) rfl k_) ?_
  show own_Go p e below _ (T86.setTop (mkF m 81 #[.val (.ref b), .val (.int (24 : Int32)), .val (.long v64), .second] [(.int (31 : Int32)), (.ref b)]))
  refine own_st (fun u_ k_ => XS.lloadN X86.here hx rfl (hb hby own_d_method_3_81) rfl k_) ?_
  show own_Go p e below _ (T86.setTop (mkF m 82 #[.val (.ref b), .val (.int (24 : Int32)), .val (.long v64), .second] [(.long v64), (.int (31 : Int32)), (.ref b)]))
  refine own_st (fun u_ k_ => XS.l2i X86.here hx rfl (hb hby own_d_method_3_82) rfl k_) ?_
  show own_Go p e below _ (T86.setTop (mkF m 83 #[.val (.ref b), .val (.int (24 : Int32)), .val (.long v64), .second] [(.int (v64.toInt32)), (.int (31 : Int32)), (.ref b)]))
  refine own_st (fun u_ k_ => XS.i2b X86.here hx rfl (hb hby own_d_method_3_83) rfl k_) ?_
  show own_Go p e below _ (T86.setTop (mkF m 84 #[.val (.ref b), .val (.int (24 : Int32)), .val (.long v64), .second] [(.int ((v64.toInt32).toInt8.toInt32)), (.int (31 : Int32)), (.ref b)]))
  obtain ⟨cl87, Ar87, q87, S87, N87, H87, G87⟩ := id V86
  have hi87 : ¬ ((31 : Int32) < 0 ∨ cl87.slots.size ≤ ((31 : Int32)).toNatClampNeg) := inb_of S87 ⟨by decide, own_lt37 hn (by decide)⟩
  obtain ⟨T88, h88, X88, e88, W88, st88⟩ := stB X86 hx hZ e86 Ar87 (j := (31 : Int32)) hi87 (g := (mkF m 84 #[.val (.ref b), .val (.int (24 : Int32)), .val (.long v64), .second] [(.int ((v64.toInt32).toInt8.toInt32)), (.int (31 : Int32)), (.ref b)])) rfl rfl (hb hby own_d_method_3_84)
  rw [own_bb] at W88
  have N88 := Fr.snoc X88 N86 gb
  have V88 : Arv Z h88 b kb .byte n (List.set (List.set (List.set (List.set (List.set (List.set (List.set (List.set vs 24 (.int ((((v64.toUInt64 >>> ((56 : Int32) &&& 0x3f).toInt64.toUInt64).toInt64).toInt32).toInt8.toInt32))) 25 (.int ((((v64.toUInt64 >>> ((48 : Int32) &&& 0x3f).toInt64.toUInt64).toInt64).toInt32).toInt8.toInt32))) 26 (.int ((((v64.toUInt64 >>> ((40 : Int32) &&& 0x3f).toInt64.toUInt64).toInt64).toInt32).toInt8.toInt32))) 27 (.int ((((v64.toUInt64 >>> ((32 : Int32) &&& 0x3f).toInt64.toUInt64).toInt64).toInt32).toInt8.toInt32))) 28 (.int ((((v64.toUInt64 >>> ((24 : Int32) &&& 0x3f).toInt64.toUInt64).toInt64).toInt32).toInt8.toInt32))) 29 (.int ((((v64.toUInt64 >>> ((16 : Int32) &&& 0x3f).toInt64.toUInt64).toInt64).toInt32).toInt8.toInt32))) 30 (.int ((((v64.toUInt64 >>> ((8 : Int32) &&& 0x3f).toInt64.toUInt64).toInt64).toInt32).toInt8.toInt32))) 31 (.int ((v64.toInt32).toInt8.toInt32))) (.int (0 : Int32)) := Arv.set Ar87 q87 S87 N87 H87 G87 (fits_nar_byte _) W88 31 rfl (by simp only [List.length_set, hl]; decide)
  refine own_st (fun u_ k_ => st88 u_ k_) ?_
  show own_Go p e below _ (T88.setTop (mkF m 85 #[.val (.ref b), .val (.int (24 : Int32)), .val (.long v64), .second] []))
  have K89 : Keep h0 h74 [b] := (Keep.refl h0 [b]).wr W74 (Or.inl (List.mem_of_getElem? (i := 0) rfl))
  have K90 : Keep h0 h76 [b] := K89.wr W76 (Or.inl (List.mem_of_getElem? (i := 0) rfl))
  have K91 : Keep h0 h78 [b] := K90.wr W78 (Or.inl (List.mem_of_getElem? (i := 0) rfl))
  have K92 : Keep h0 h80 [b] := K91.wr W80 (Or.inl (List.mem_of_getElem? (i := 0) rfl))
  have K93 : Keep h0 h82 [b] := K92.wr W82 (Or.inl (List.mem_of_getElem? (i := 0) rfl))
  have K94 : Keep h0 h84 [b] := K93.wr W84 (Or.inl (List.mem_of_getElem? (i := 0) rfl))
  have K95 : Keep h0 h86 [b] := K94.wr W86 (Or.inl (List.mem_of_getElem? (i := 0) rfl))
  have K96 : Keep h0 h88 [b] := K95.wr W88 (Or.inl (List.mem_of_getElem? (i := 0) rfl))
  exact own_retV X88 hx hlk hret (hb hby own_d_method_3_85) (by decide) (by decide) (show QrmP24 Z we b kb n vs v64 h0 n0 none T88.heap _ from (by rw [e88]; exact ⟨rfl, N88, K96, V88⟩))
theorem own_d_method_4_0 : decode method_4_code 0 = .ok (.aload_n 0, 1) := by decide +kernel
theorem own_d_method_4_1 : decode method_4_code 1 = .ok (.iload_n 1, 1) := by decide +kernel
theorem own_d_method_4_2 : decode method_4_code 2 = .ok (.baload, 1) := by decide +kernel
theorem own_d_method_4_3 : decode method_4_code 3 = .ok (.lload_n 2, 1) := by decide +kernel
theorem own_d_method_4_4 : decode method_4_code 4 = .ok (.bipush 56, 2) := by decide +kernel
theorem own_d_method_4_6 : decode method_4_code 6 = .ok (.lushr, 1) := by decide +kernel
theorem own_d_method_4_7 : decode method_4_code 7 = .ok (.l2i, 1) := by decide +kernel
theorem own_d_method_4_8 : decode method_4_code 8 = .ok (.i2b, 1) := by decide +kernel
theorem own_d_method_4_9 : decode method_4_code 9 = .ok (.if_icmp .ne 104, 3) := by decide +kernel
theorem own_d_method_4_12 : decode method_4_code 12 = .ok (.aload_n 0, 1) := by decide +kernel
theorem own_d_method_4_13 : decode method_4_code 13 = .ok (.iload_n 1, 1) := by decide +kernel
theorem own_d_method_4_14 : decode method_4_code 14 = .ok (.iconst 1, 1) := by decide +kernel
theorem own_d_method_4_15 : decode method_4_code 15 = .ok (.iadd, 1) := by decide +kernel
theorem own_d_method_4_16 : decode method_4_code 16 = .ok (.baload, 1) := by decide +kernel
theorem own_d_method_4_17 : decode method_4_code 17 = .ok (.lload_n 2, 1) := by decide +kernel
theorem own_d_method_4_18 : decode method_4_code 18 = .ok (.bipush 48, 2) := by decide +kernel
theorem own_d_method_4_20 : decode method_4_code 20 = .ok (.lushr, 1) := by decide +kernel
theorem own_d_method_4_21 : decode method_4_code 21 = .ok (.l2i, 1) := by decide +kernel
theorem own_d_method_4_22 : decode method_4_code 22 = .ok (.i2b, 1) := by decide +kernel
theorem own_d_method_4_23 : decode method_4_code 23 = .ok (.if_icmp .ne 90, 3) := by decide +kernel
theorem own_d_method_4_26 : decode method_4_code 26 = .ok (.aload_n 0, 1) := by decide +kernel
theorem own_d_method_4_27 : decode method_4_code 27 = .ok (.iload_n 1, 1) := by decide +kernel
theorem own_d_method_4_28 : decode method_4_code 28 = .ok (.iconst 2, 1) := by decide +kernel
theorem own_d_method_4_29 : decode method_4_code 29 = .ok (.iadd, 1) := by decide +kernel
theorem own_d_method_4_30 : decode method_4_code 30 = .ok (.baload, 1) := by decide +kernel
theorem own_d_method_4_31 : decode method_4_code 31 = .ok (.lload_n 2, 1) := by decide +kernel
theorem own_d_method_4_32 : decode method_4_code 32 = .ok (.bipush 40, 2) := by decide +kernel
theorem own_d_method_4_34 : decode method_4_code 34 = .ok (.lushr, 1) := by decide +kernel
theorem own_d_method_4_35 : decode method_4_code 35 = .ok (.l2i, 1) := by decide +kernel
theorem own_d_method_4_36 : decode method_4_code 36 = .ok (.i2b, 1) := by decide +kernel
theorem own_d_method_4_37 : decode method_4_code 37 = .ok (.if_icmp .ne 76, 3) := by decide +kernel
theorem own_d_method_4_40 : decode method_4_code 40 = .ok (.aload_n 0, 1) := by decide +kernel
theorem own_d_method_4_41 : decode method_4_code 41 = .ok (.iload_n 1, 1) := by decide +kernel
theorem own_d_method_4_42 : decode method_4_code 42 = .ok (.iconst 3, 1) := by decide +kernel
theorem own_d_method_4_43 : decode method_4_code 43 = .ok (.iadd, 1) := by decide +kernel
theorem own_d_method_4_44 : decode method_4_code 44 = .ok (.baload, 1) := by decide +kernel
theorem own_d_method_4_45 : decode method_4_code 45 = .ok (.lload_n 2, 1) := by decide +kernel
theorem own_d_method_4_46 : decode method_4_code 46 = .ok (.bipush 32, 2) := by decide +kernel
theorem own_d_method_4_48 : decode method_4_code 48 = .ok (.lushr, 1) := by decide +kernel
theorem own_d_method_4_49 : decode method_4_code 49 = .ok (.l2i, 1) := by decide +kernel
theorem own_d_method_4_50 : decode method_4_code 50 = .ok (.i2b, 1) := by decide +kernel
theorem own_d_method_4_51 : decode method_4_code 51 = .ok (.if_icmp .ne 62, 3) := by decide +kernel
theorem own_d_method_4_54 : decode method_4_code 54 = .ok (.aload_n 0, 1) := by decide +kernel
theorem own_d_method_4_55 : decode method_4_code 55 = .ok (.iload_n 1, 1) := by decide +kernel
theorem own_d_method_4_56 : decode method_4_code 56 = .ok (.iconst 4, 1) := by decide +kernel
theorem own_d_method_4_57 : decode method_4_code 57 = .ok (.iadd, 1) := by decide +kernel
theorem own_d_method_4_58 : decode method_4_code 58 = .ok (.baload, 1) := by decide +kernel
theorem own_d_method_4_59 : decode method_4_code 59 = .ok (.lload_n 2, 1) := by decide +kernel
theorem own_d_method_4_60 : decode method_4_code 60 = .ok (.bipush 24, 2) := by decide +kernel
theorem own_d_method_4_62 : decode method_4_code 62 = .ok (.lushr, 1) := by decide +kernel
theorem own_d_method_4_63 : decode method_4_code 63 = .ok (.l2i, 1) := by decide +kernel
theorem own_d_method_4_64 : decode method_4_code 64 = .ok (.i2b, 1) := by decide +kernel
theorem own_d_method_4_65 : decode method_4_code 65 = .ok (.if_icmp .ne 48, 3) := by decide +kernel
theorem own_d_method_4_68 : decode method_4_code 68 = .ok (.aload_n 0, 1) := by decide +kernel
theorem own_d_method_4_69 : decode method_4_code 69 = .ok (.iload_n 1, 1) := by decide +kernel
theorem own_d_method_4_70 : decode method_4_code 70 = .ok (.iconst 5, 1) := by decide +kernel
theorem own_d_method_4_71 : decode method_4_code 71 = .ok (.iadd, 1) := by decide +kernel
theorem own_d_method_4_72 : decode method_4_code 72 = .ok (.baload, 1) := by decide +kernel
theorem own_d_method_4_73 : decode method_4_code 73 = .ok (.lload_n 2, 1) := by decide +kernel
theorem own_d_method_4_74 : decode method_4_code 74 = .ok (.bipush 16, 2) := by decide +kernel
theorem own_d_method_4_76 : decode method_4_code 76 = .ok (.lushr, 1) := by decide +kernel
theorem own_d_method_4_77 : decode method_4_code 77 = .ok (.l2i, 1) := by decide +kernel
theorem own_d_method_4_78 : decode method_4_code 78 = .ok (.i2b, 1) := by decide +kernel
theorem own_d_method_4_79 : decode method_4_code 79 = .ok (.if_icmp .ne 34, 3) := by decide +kernel
theorem own_d_method_4_82 : decode method_4_code 82 = .ok (.aload_n 0, 1) := by decide +kernel
theorem own_d_method_4_83 : decode method_4_code 83 = .ok (.iload_n 1, 1) := by decide +kernel
theorem own_d_method_4_84 : decode method_4_code 84 = .ok (.bipush 6, 2) := by decide +kernel
theorem own_d_method_4_86 : decode method_4_code 86 = .ok (.iadd, 1) := by decide +kernel
theorem own_d_method_4_87 : decode method_4_code 87 = .ok (.baload, 1) := by decide +kernel
theorem own_d_method_4_88 : decode method_4_code 88 = .ok (.lload_n 2, 1) := by decide +kernel
theorem own_d_method_4_89 : decode method_4_code 89 = .ok (.bipush 8, 2) := by decide +kernel
theorem own_d_method_4_91 : decode method_4_code 91 = .ok (.lushr, 1) := by decide +kernel
theorem own_d_method_4_92 : decode method_4_code 92 = .ok (.l2i, 1) := by decide +kernel
theorem own_d_method_4_93 : decode method_4_code 93 = .ok (.i2b, 1) := by decide +kernel
theorem own_d_method_4_94 : decode method_4_code 94 = .ok (.if_icmp .ne 19, 3) := by decide +kernel
theorem own_d_method_4_97 : decode method_4_code 97 = .ok (.aload_n 0, 1) := by decide +kernel
theorem own_d_method_4_98 : decode method_4_code 98 = .ok (.iload_n 1, 1) := by decide +kernel
theorem own_d_method_4_99 : decode method_4_code 99 = .ok (.bipush 7, 2) := by decide +kernel
theorem own_d_method_4_101 : decode method_4_code 101 = .ok (.iadd, 1) := by decide +kernel
theorem own_d_method_4_102 : decode method_4_code 102 = .ok (.baload, 1) := by decide +kernel
theorem own_d_method_4_103 : decode method_4_code 103 = .ok (.lload_n 2, 1) := by decide +kernel
theorem own_d_method_4_104 : decode method_4_code 104 = .ok (.l2i, 1) := by decide +kernel
theorem own_d_method_4_105 : decode method_4_code 105 = .ok (.i2b, 1) := by decide +kernel
theorem own_d_method_4_106 : decode method_4_code 106 = .ok (.if_icmp .ne 7, 3) := by decide +kernel
theorem own_d_method_4_109 : decode method_4_code 109 = .ok (.iconst 1, 1) := by decide +kernel
theorem own_d_method_4_110 : decode method_4_code 110 = .ok (.goto 4, 3) := by decide +kernel
theorem own_d_method_4_114 : decode method_4_code 114 = .ok (.ireturn, 1) := by decide +kernel
abbrev own_y_166 : MethodName := ⟨"com/example/tasdik/tasdik/core/appattest/AuthenticatorDataOfAssertionPinLaw", "eq8", "([BIJ)Z"⟩
theorem own_ef_rmE0 (m : MethodId) (b : Addr) (v64 : Int64)  : entryFrame m #[(.ref b), (.int (0 : Int32)), (.long v64)] 4 = mkF m 0 #[.val (.ref b), .val (.int (0 : Int32)), .val (.long v64), .second] [] := by first | (simp [entryFrame, mkF, argsToLocals, Value.category, maxLocals]; done) | rfl
def QrmE0 (Z : State) (we : Addr) (b : Addr) (kb : ClassId) (vs : List Value) (v64 : Int64) (h0 : Heap) (n0 : Nat) (v : Option Value) (h : Heap) (L : List Loc) : Prop := v = some (.int (1 : Int32)) ∧ Fr n0 L ∧ h = h0
set_option maxRecDepth 65536 in
set_option maxHeartbeats 40000000 in
theorem rmE0 (l : Launch) (Z : State) (a0 : Array Value) (hw : own_H a0 Z) (ws : List Jvm.Cond) (we : Addr) (hS : own_S Z we) (b : Addr) (kb : ClassId) (vs : List Value) (v64 : Int64) (h0 : Heap) (n0 : Nat) (O0 : Old Z n0 h0) (V : Arv Z h0 b kb .byte (32 : Int32) vs (.int (0 : Int32))) (f0 : vs.getD 0 (.int (0 : Int32)) = .int ((((v64.toUInt64 >>> ((56 : Int32) &&& 0x3f).toInt64.toUInt64).toInt64).toInt32).toInt8.toInt32)) (f1 : vs.getD 1 (.int (0 : Int32)) = .int ((((v64.toUInt64 >>> ((48 : Int32) &&& 0x3f).toInt64.toUInt64).toInt64).toInt32).toInt8.toInt32)) (f2 : vs.getD 2 (.int (0 : Int32)) = .int ((((v64.toUInt64 >>> ((40 : Int32) &&& 0x3f).toInt64.toUInt64).toInt64).toInt32).toInt8.toInt32)) (f3 : vs.getD 3 (.int (0 : Int32)) = .int ((((v64.toUInt64 >>> ((32 : Int32) &&& 0x3f).toInt64.toUInt64).toInt64).toInt32).toInt8.toInt32)) (f4 : vs.getD 4 (.int (0 : Int32)) = .int ((((v64.toUInt64 >>> ((24 : Int32) &&& 0x3f).toInt64.toUInt64).toInt64).toInt32).toInt8.toInt32)) (f5 : vs.getD 5 (.int (0 : Int32)) = .int ((((v64.toUInt64 >>> ((16 : Int32) &&& 0x3f).toInt64.toUInt64).toInt64).toInt32).toInt8.toInt32)) (f6 : vs.getD 6 (.int (0 : Int32)) = .int ((((v64.toUInt64 >>> ((8 : Int32) &&& 0x3f).toInt64.toUInt64).toInt64).toInt32).toInt8.toInt32)) (f7 : vs.getD 7 (.int (0 : Int32)) = .int ((v64.toInt32).toInt8.toInt32)) :
    own_Met l own_y_166 method_4_code 4 (some .boolean) ws ({ frames := 0, cells := 0, slots := 0, locals := 0 } : Room) Z h0 #[(.ref b), (.int (0 : Int32)), (.long v64)] (QrmE0 Z we b kb vs v64 h0 n0) := by
  refine own_body (plainFor_of_name own_pn_78) ?_
  intro p e s m below meth c s₁ hx hby hml hown hnm hret hlk hZ e0 X0
  have N0 := Fr.nil n0
  refine own_st (fun u_ k_ => castTop (own_ef_rmE0 m b v64) k_) ?_
  show own_Go p e below _ (s₁.setTop (mkF m 0 #[.val (.ref b), .val (.int (0 : Int32)), .val (.long v64), .second] []))
  refine own_st (fun u_ k_ => XS.aloadN X0.here hx rfl (hb hby own_d_method_4_0) rfl rfl k_) ?_
  show own_Go p e below _ (s₁.setTop (mkF m 1 #[.val (.ref b), .val (.int (0 : Int32)), .val (.long v64), .second] [(.ref b)]))
  refine own_st (fun u_ k_ => XS.iloadN X0.here hx rfl (hb hby own_d_method_4_1) rfl k_) ?_
  show own_Go p e below _ (s₁.setTop (mkF m 2 #[.val (.ref b), .val (.int (0 : Int32)), .val (.long v64), .second] [(.int (0 : Int32)), (.ref b)]))
  obtain ⟨cl97, Ar97, q97, S97, N97, H97, G97⟩ := id V
  have hi97 : ¬ ((0 : Int32) < 0 ∨ cl97.slots.size ≤ ((0 : Int32)).toNatClampNeg) := inb_of S97 ⟨by decide, by decide⟩
  have ha97 : cl97.slots[((0 : Int32)).toNatClampNeg]? = some (.int ((((v64.toUInt64 >>> ((56 : Int32) &&& 0x3f).toInt64.toUInt64).toInt64).toInt32).toInt8.toInt32)) := H97.at hi97 f0
  refine own_st (X0.baloadBytes hx (j := (0 : Int32)) (v := (.int ((((v64.toUInt64 >>> ((56 : Int32) &&& 0x3f).toInt64.toUInt64).toInt64).toInt32).toInt8.toInt32))) (by rw [e0]; exact Ar97.1) (State.isArrayOf_alike hZ.alike Ar97.2.1) Ar97.2.2 hi97 ha97 (g := (mkF m 2 #[.val (.ref b), .val (.int (0 : Int32)), .val (.long v64), .second] [(.int (0 : Int32)), (.ref b)])) rfl rfl (hb hby own_d_method_4_2)) ?_
  show own_Go p e below _ (s₁.setTop (mkF m 3 #[.val (.ref b), .val (.int (0 : Int32)), .val (.long v64), .second] [(.int ((((v64.toUInt64 >>> ((56 : Int32) &&& 0x3f).toInt64.toUInt64).toInt64).toInt32).toInt8.toInt32))]))
  refine own_st (fun u_ k_ => XS.lloadN X0.here hx rfl (hb hby own_d_method_4_3) rfl k_) ?_
  show own_Go p e below _ (s₁.setTop (mkF m 4 #[.val (.ref b), .val (.int (0 : Int32)), .val (.long v64), .second] [(.long v64), (.int ((((v64.toUInt64 >>> ((56 : Int32) &&& 0x3f).toInt64.toUInt64).toInt64).toInt32).toInt8.toInt32))]))
  refine own_st (fun u_ k_ => XS.bipush X0.here hx rfl (hb hby own_d_method_4_4) k_) ?_
  show own_Go p e below _ (s₁.setTop (mkF m 6 #[.val (.ref b), .val (.int (0 : Int32)), .val (.long v64), .second] [(.int (56 : Int32)), (.long v64), (.int ((((v64.toUInt64 >>> ((56 : Int32) &&& 0x3f).toInt64.toUInt64).toInt64).toInt32).toInt8.toInt32))]))
  refine own_st (fun u_ k_ => XS.lushr X0.here hx rfl (hb hby own_d_method_4_6) rfl k_) ?_
  show own_Go p e below _ (s₁.setTop (mkF m 7 #[.val (.ref b), .val (.int (0 : Int32)), .val (.long v64), .second] [(.long ((v64.toUInt64 >>> ((56 : Int32) &&& 0x3f).toInt64.toUInt64).toInt64)), (.int ((((v64.toUInt64 >>> ((56 : Int32) &&& 0x3f).toInt64.toUInt64).toInt64).toInt32).toInt8.toInt32))]))
  refine own_st (fun u_ k_ => XS.l2i X0.here hx rfl (hb hby own_d_method_4_7) rfl k_) ?_
  show own_Go p e below _ (s₁.setTop (mkF m 8 #[.val (.ref b), .val (.int (0 : Int32)), .val (.long v64), .second] [(.int (((v64.toUInt64 >>> ((56 : Int32) &&& 0x3f).toInt64.toUInt64).toInt64).toInt32)), (.int ((((v64.toUInt64 >>> ((56 : Int32) &&& 0x3f).toInt64.toUInt64).toInt64).toInt32).toInt8.toInt32))]))
  refine own_st (fun u_ k_ => XS.i2b X0.here hx rfl (hb hby own_d_method_4_8) rfl k_) ?_
  show own_Go p e below _ (s₁.setTop (mkF m 9 #[.val (.ref b), .val (.int (0 : Int32)), .val (.long v64), .second] [(.int ((((v64.toUInt64 >>> ((56 : Int32) &&& 0x3f).toInt64.toUInt64).toInt64).toInt32).toInt8.toInt32)), (.int ((((v64.toUInt64 >>> ((56 : Int32) &&& 0x3f).toInt64.toUInt64).toInt64).toInt32).toInt8.toInt32))]))
  refine own_st (fun u_ k_ => XS.icmpNo X0.here hx rfl (hb hby own_d_method_4_9) rfl (XT.ii_ne_f rfl) k_) ?_
  show own_Go p e below _ (s₁.setTop (mkF m 12 #[.val (.ref b), .val (.int (0 : Int32)), .val (.long v64), .second] []))
  refine own_st (fun u_ k_ => XS.aloadN X0.here hx rfl (hb hby own_d_method_4_12) rfl rfl k_) ?_
  show own_Go p e below _ (s₁.setTop (mkF m 13 #[.val (.ref b), .val (.int (0 : Int32)), .val (.long v64), .second] [(.ref b)]))
  refine own_st (fun u_ k_ => XS.iloadN X0.here hx rfl (hb hby own_d_method_4_13) rfl k_) ?_
  show own_Go p e below _ (s₁.setTop (mkF m 14 #[.val (.ref b), .val (.int (0 : Int32)), .val (.long v64), .second] [(.int (0 : Int32)), (.ref b)]))
  refine own_st (fun u_ k_ => XS.iconst X0.here hx rfl (hb hby own_d_method_4_14) k_) ?_
  show own_Go p e below _ (s₁.setTop (mkF m 15 #[.val (.ref b), .val (.int (0 : Int32)), .val (.long v64), .second] [(.int (1 : Int32)), (.int (0 : Int32)), (.ref b)]))
  refine own_st (fun u_ k_ => XS.iadd X0.here hx rfl (hb hby own_d_method_4_15) rfl k_) ?_
  show own_Go p e below _ (s₁.setTop (mkF m 16 #[.val (.ref b), .val (.int (0 : Int32)), .val (.long v64), .second] [(.int (1 : Int32)), (.ref b)]))
  obtain ⟨cl98, Ar98, q98, S98, N98, H98, G98⟩ := id V
  have hi98 : ¬ ((1 : Int32) < 0 ∨ cl98.slots.size ≤ ((1 : Int32)).toNatClampNeg) := inb_of S98 ⟨by decide, by decide⟩
  have ha98 : cl98.slots[((1 : Int32)).toNatClampNeg]? = some (.int ((((v64.toUInt64 >>> ((48 : Int32) &&& 0x3f).toInt64.toUInt64).toInt64).toInt32).toInt8.toInt32)) := H98.at hi98 f1
  refine own_st (X0.baloadBytes hx (j := (1 : Int32)) (v := (.int ((((v64.toUInt64 >>> ((48 : Int32) &&& 0x3f).toInt64.toUInt64).toInt64).toInt32).toInt8.toInt32))) (by rw [e0]; exact Ar98.1) (State.isArrayOf_alike hZ.alike Ar98.2.1) Ar98.2.2 hi98 ha98 (g := (mkF m 16 #[.val (.ref b), .val (.int (0 : Int32)), .val (.long v64), .second] [(.int (1 : Int32)), (.ref b)])) rfl rfl (hb hby own_d_method_4_16)) ?_
  show own_Go p e below _ (s₁.setTop (mkF m 17 #[.val (.ref b), .val (.int (0 : Int32)), .val (.long v64), .second] [(.int ((((v64.toUInt64 >>> ((48 : Int32) &&& 0x3f).toInt64.toUInt64).toInt64).toInt32).toInt8.toInt32))]))
  refine own_st (fun u_ k_ => XS.lloadN X0.here hx rfl (hb hby own_d_method_4_17) rfl k_) ?_
  show own_Go p e below _ (s₁.setTop (mkF m 18 #[.val (.ref b), .val (.int (0 : Int32)), .val (.long v64), .second] [(.long v64), (.int ((((v64.toUInt64 >>> ((48 : Int32) &&& 0x3f).toInt64.toUInt64).toInt64).toInt32).toInt8.toInt32))]))
  refine own_st (fun u_ k_ => XS.bipush X0.here hx rfl (hb hby own_d_method_4_18) k_) ?_
  show own_Go p e below _ (s₁.setTop (mkF m 20 #[.val (.ref b), .val (.int (0 : Int32)), .val (.long v64), .second] [(.int (48 : Int32)), (.long v64), (.int ((((v64.toUInt64 >>> ((48 : Int32) &&& 0x3f).toInt64.toUInt64).toInt64).toInt32).toInt8.toInt32))]))
  refine own_st (fun u_ k_ => XS.lushr X0.here hx rfl (hb hby own_d_method_4_20) rfl k_) ?_
  show own_Go p e below _ (s₁.setTop (mkF m 21 #[.val (.ref b), .val (.int (0 : Int32)), .val (.long v64), .second] [(.long ((v64.toUInt64 >>> ((48 : Int32) &&& 0x3f).toInt64.toUInt64).toInt64)), (.int ((((v64.toUInt64 >>> ((48 : Int32) &&& 0x3f).toInt64.toUInt64).toInt64).toInt32).toInt8.toInt32))]))
  refine own_st (fun u_ k_ => XS.l2i X0.here hx rfl (hb hby own_d_method_4_21) rfl k_) ?_
  show own_Go p e below _ (s₁.setTop (mkF m 22 #[.val (.ref b), .val (.int (0 : Int32)), .val (.long v64), .second] [(.int (((v64.toUInt64 >>> ((48 : Int32) &&& 0x3f).toInt64.toUInt64).toInt64).toInt32)), (.int ((((v64.toUInt64 >>> ((48 : Int32) &&& 0x3f).toInt64.toUInt64).toInt64).toInt32).toInt8.toInt32))]))
  refine own_st (fun u_ k_ => XS.i2b X0.here hx rfl (hb hby own_d_method_4_22) rfl k_) ?_
  show own_Go p e below _ (s₁.setTop (mkF m 23 #[.val (.ref b), .val (.int (0 : Int32)), .val (.long v64), .second] [(.int ((((v64.toUInt64 >>> ((48 : Int32) &&& 0x3f).toInt64.toUInt64).toInt64).toInt32).toInt8.toInt32)), (.int ((((v64.toUInt64 >>> ((48 : Int32) &&& 0x3f).toInt64.toUInt64).toInt64).toInt32).toInt8.toInt32))]))
  refine own_st (fun u_ k_ => XS.icmpNo X0.here hx rfl (hb hby own_d_method_4_23) rfl (XT.ii_ne_f rfl) k_) ?_
  show own_Go p e below _ (s₁.setTop (mkF m 26 #[.val (.ref b), .val (.int (0 : Int32)), .val (.long v64), .second] []))
  refine own_st (fun u_ k_ => XS.aloadN X0.here hx rfl (hb hby own_d_method_4_26) rfl rfl k_) ?_
  show own_Go p e below _ (s₁.setTop (mkF m 27 #[.val (.ref b), .val (.int (0 : Int32)), .val (.long v64), .second] [(.ref b)]))
  refine own_st (fun u_ k_ => XS.iloadN X0.here hx rfl (hb hby own_d_method_4_27) rfl k_) ?_
  show own_Go p e below _ (s₁.setTop (mkF m 28 #[.val (.ref b), .val (.int (0 : Int32)), .val (.long v64), .second] [(.int (0 : Int32)), (.ref b)]))
  refine own_st (fun u_ k_ => XS.iconst X0.here hx rfl (hb hby own_d_method_4_28) k_) ?_
  show own_Go p e below _ (s₁.setTop (mkF m 29 #[.val (.ref b), .val (.int (0 : Int32)), .val (.long v64), .second] [(.int (2 : Int32)), (.int (0 : Int32)), (.ref b)]))
  refine own_st (fun u_ k_ => XS.iadd X0.here hx rfl (hb hby own_d_method_4_29) rfl k_) ?_
  show own_Go p e below _ (s₁.setTop (mkF m 30 #[.val (.ref b), .val (.int (0 : Int32)), .val (.long v64), .second] [(.int (2 : Int32)), (.ref b)]))
  obtain ⟨cl99, Ar99, q99, S99, N99, H99, G99⟩ := id V
  have hi99 : ¬ ((2 : Int32) < 0 ∨ cl99.slots.size ≤ ((2 : Int32)).toNatClampNeg) := inb_of S99 ⟨by decide, by decide⟩
  have ha99 : cl99.slots[((2 : Int32)).toNatClampNeg]? = some (.int ((((v64.toUInt64 >>> ((40 : Int32) &&& 0x3f).toInt64.toUInt64).toInt64).toInt32).toInt8.toInt32)) := H99.at hi99 f2
  refine own_st (X0.baloadBytes hx (j := (2 : Int32)) (v := (.int ((((v64.toUInt64 >>> ((40 : Int32) &&& 0x3f).toInt64.toUInt64).toInt64).toInt32).toInt8.toInt32))) (by rw [e0]; exact Ar99.1) (State.isArrayOf_alike hZ.alike Ar99.2.1) Ar99.2.2 hi99 ha99 (g := (mkF m 30 #[.val (.ref b), .val (.int (0 : Int32)), .val (.long v64), .second] [(.int (2 : Int32)), (.ref b)])) rfl rfl (hb hby own_d_method_4_30)) ?_
  show own_Go p e below _ (s₁.setTop (mkF m 31 #[.val (.ref b), .val (.int (0 : Int32)), .val (.long v64), .second] [(.int ((((v64.toUInt64 >>> ((40 : Int32) &&& 0x3f).toInt64.toUInt64).toInt64).toInt32).toInt8.toInt32))]))
  refine own_st (fun u_ k_ => XS.lloadN X0.here hx rfl (hb hby own_d_method_4_31) rfl k_) ?_
  show own_Go p e below _ (s₁.setTop (mkF m 32 #[.val (.ref b), .val (.int (0 : Int32)), .val (.long v64), .second] [(.long v64), (.int ((((v64.toUInt64 >>> ((40 : Int32) &&& 0x3f).toInt64.toUInt64).toInt64).toInt32).toInt8.toInt32))]))
  refine own_st (fun u_ k_ => XS.bipush X0.here hx rfl (hb hby own_d_method_4_32) k_) ?_
  show own_Go p e below _ (s₁.setTop (mkF m 34 #[.val (.ref b), .val (.int (0 : Int32)), .val (.long v64), .second] [(.int (40 : Int32)), (.long v64), (.int ((((v64.toUInt64 >>> ((40 : Int32) &&& 0x3f).toInt64.toUInt64).toInt64).toInt32).toInt8.toInt32))]))
  refine own_st (fun u_ k_ => XS.lushr X0.here hx rfl (hb hby own_d_method_4_34) rfl k_) ?_
  show own_Go p e below _ (s₁.setTop (mkF m 35 #[.val (.ref b), .val (.int (0 : Int32)), .val (.long v64), .second] [(.long ((v64.toUInt64 >>> ((40 : Int32) &&& 0x3f).toInt64.toUInt64).toInt64)), (.int ((((v64.toUInt64 >>> ((40 : Int32) &&& 0x3f).toInt64.toUInt64).toInt64).toInt32).toInt8.toInt32))]))
  refine own_st (fun u_ k_ => XS.l2i X0.here hx rfl (hb hby own_d_method_4_35) rfl k_) ?_
  show own_Go p e below _ (s₁.setTop (mkF m 36 #[.val (.ref b), .val (.int (0 : Int32)), .val (.long v64), .second] [(.int (((v64.toUInt64 >>> ((40 : Int32) &&& 0x3f).toInt64.toUInt64).toInt64).toInt32)), (.int ((((v64.toUInt64 >>> ((40 : Int32) &&& 0x3f).toInt64.toUInt64).toInt64).toInt32).toInt8.toInt32))]))
  refine own_st (fun u_ k_ => XS.i2b X0.here hx rfl (hb hby own_d_method_4_36) rfl k_) ?_
  show own_Go p e below _ (s₁.setTop (mkF m 37 #[.val (.ref b), .val (.int (0 : Int32)), .val (.long v64), .second] [(.int ((((v64.toUInt64 >>> ((40 : Int32) &&& 0x3f).toInt64.toUInt64).toInt64).toInt32).toInt8.toInt32)), (.int ((((v64.toUInt64 >>> ((40 : Int32) &&& 0x3f).toInt64.toUInt64).toInt64).toInt32).toInt8.toInt32))]))
  refine own_st (fun u_ k_ => XS.icmpNo X0.here hx rfl (hb hby own_d_method_4_37) rfl (XT.ii_ne_f rfl) k_) ?_
  show own_Go p e below _ (s₁.setTop (mkF m 40 #[.val (.ref b), .val (.int (0 : Int32)), .val (.long v64), .second] []))
  refine own_st (fun u_ k_ => XS.aloadN X0.here hx rfl (hb hby own_d_method_4_40) rfl rfl k_) ?_
  show own_Go p e below _ (s₁.setTop (mkF m 41 #[.val (.ref b), .val (.int (0 : Int32)), .val (.long v64), .second] [(.ref b)]))
  refine own_st (fun u_ k_ => XS.iloadN X0.here hx rfl (hb hby own_d_method_4_41) rfl k_) ?_
  show own_Go p e below _ (s₁.setTop (mkF m 42 #[.val (.ref b), .val (.int (0 : Int32)), .val (.long v64), .second] [(.int (0 : Int32)), (.ref b)]))
  refine own_st (fun u_ k_ => XS.iconst X0.here hx rfl (hb hby own_d_method_4_42) k_) ?_
  show own_Go p e below _ (s₁.setTop (mkF m 43 #[.val (.ref b), .val (.int (0 : Int32)), .val (.long v64), .second] [(.int (3 : Int32)), (.int (0 : Int32)), (.ref b)]))
  refine own_st (fun u_ k_ => XS.iadd X0.here hx rfl (hb hby own_d_method_4_43) rfl k_) ?_
  show own_Go p e below _ (s₁.setTop (mkF m 44 #[.val (.ref b), .val (.int (0 : Int32)), .val (.long v64), .second] [(.int (3 : Int32)), (.ref b)]))
  obtain ⟨cl100, Ar100, q100, S100, N100, H100, G100⟩ := id V
  have hi100 : ¬ ((3 : Int32) < 0 ∨ cl100.slots.size ≤ ((3 : Int32)).toNatClampNeg) := inb_of S100 ⟨by decide, by decide⟩
  have ha100 : cl100.slots[((3 : Int32)).toNatClampNeg]? = some (.int ((((v64.toUInt64 >>> ((32 : Int32) &&& 0x3f).toInt64.toUInt64).toInt64).toInt32).toInt8.toInt32)) := H100.at hi100 f3
  refine own_st (X0.baloadBytes hx (j := (3 : Int32)) (v := (.int ((((v64.toUInt64 >>> ((32 : Int32) &&& 0x3f).toInt64.toUInt64).toInt64).toInt32).toInt8.toInt32))) (by rw [e0]; exact Ar100.1) (State.isArrayOf_alike hZ.alike Ar100.2.1) Ar100.2.2 hi100 ha100 (g := (mkF m 44 #[.val (.ref b), .val (.int (0 : Int32)), .val (.long v64), .second] [(.int (3 : Int32)), (.ref b)])) rfl rfl (hb hby own_d_method_4_44)) ?_
  show own_Go p e below _ (s₁.setTop (mkF m 45 #[.val (.ref b), .val (.int (0 : Int32)), .val (.long v64), .second] [(.int ((((v64.toUInt64 >>> ((32 : Int32) &&& 0x3f).toInt64.toUInt64).toInt64).toInt32).toInt8.toInt32))]))
  refine own_st (fun u_ k_ => XS.lloadN X0.here hx rfl (hb hby own_d_method_4_45) rfl k_) ?_
  show own_Go p e below _ (s₁.setTop (mkF m 46 #[.val (.ref b), .val (.int (0 : Int32)), .val (.long v64), .second] [(.long v64), (.int ((((v64.toUInt64 >>> ((32 : Int32) &&& 0x3f).toInt64.toUInt64).toInt64).toInt32).toInt8.toInt32))]))
  refine own_st (fun u_ k_ => XS.bipush X0.here hx rfl (hb hby own_d_method_4_46) k_) ?_
  show own_Go p e below _ (s₁.setTop (mkF m 48 #[.val (.ref b), .val (.int (0 : Int32)), .val (.long v64), .second] [(.int (32 : Int32)), (.long v64), (.int ((((v64.toUInt64 >>> ((32 : Int32) &&& 0x3f).toInt64.toUInt64).toInt64).toInt32).toInt8.toInt32))]))
  refine own_st (fun u_ k_ => XS.lushr X0.here hx rfl (hb hby own_d_method_4_48) rfl k_) ?_
  show own_Go p e below _ (s₁.setTop (mkF m 49 #[.val (.ref b), .val (.int (0 : Int32)), .val (.long v64), .second] [(.long ((v64.toUInt64 >>> ((32 : Int32) &&& 0x3f).toInt64.toUInt64).toInt64)), (.int ((((v64.toUInt64 >>> ((32 : Int32) &&& 0x3f).toInt64.toUInt64).toInt64).toInt32).toInt8.toInt32))]))
  refine own_st (fun u_ k_ => XS.l2i X0.here hx rfl (hb hby own_d_method_4_49) rfl k_) ?_
  show own_Go p e below _ (s₁.setTop (mkF m 50 #[.val (.ref b), .val (.int (0 : Int32)), .val (.long v64), .second] [(.int (((v64.toUInt64 >>> ((32 : Int32) &&& 0x3f).toInt64.toUInt64).toInt64).toInt32)), (.int ((((v64.toUInt64 >>> ((32 : Int32) &&& 0x3f).toInt64.toUInt64).toInt64).toInt32).toInt8.toInt32))]))
  refine own_st (fun u_ k_ => XS.i2b X0.here hx rfl (hb hby own_d_method_4_50) rfl k_) ?_
  show own_Go p e below _ (s₁.setTop (mkF m 51 #[.val (.ref b), .val (.int (0 : Int32)), .val (.long v64), .second] [(.int ((((v64.toUInt64 >>> ((32 : Int32) &&& 0x3f).toInt64.toUInt64).toInt64).toInt32).toInt8.toInt32)), (.int ((((v64.toUInt64 >>> ((32 : Int32) &&& 0x3f).toInt64.toUInt64).toInt64).toInt32).toInt8.toInt32))]))
  refine own_st (fun u_ k_ => XS.icmpNo X0.here hx rfl (hb hby own_d_method_4_51) rfl (XT.ii_ne_f rfl) k_) ?_
  show own_Go p e below _ (s₁.setTop (mkF m 54 #[.val (.ref b), .val (.int (0 : Int32)), .val (.long v64), .second] []))
  refine own_st (fun u_ k_ => XS.aloadN X0.here hx rfl (hb hby own_d_method_4_54) rfl rfl k_) ?_
  show own_Go p e below _ (s₁.setTop (mkF m 55 #[.val (.ref b), .val (.int (0 : Int32)), .val (.long v64), .second] [(.ref b)]))
  refine own_st (fun u_ k_ => XS.iloadN X0.here hx rfl (hb hby own_d_method_4_55) rfl k_) ?_
  show own_Go p e below _ (s₁.setTop (mkF m 56 #[.val (.ref b), .val (.int (0 : Int32)), .val (.long v64), .second] [(.int (0 : Int32)), (.ref b)]))
  refine own_st (fun u_ k_ => XS.iconst X0.here hx rfl (hb hby own_d_method_4_56) k_) ?_
  show own_Go p e below _ (s₁.setTop (mkF m 57 #[.val (.ref b), .val (.int (0 : Int32)), .val (.long v64), .second] [(.int (4 : Int32)), (.int (0 : Int32)), (.ref b)]))
  refine own_st (fun u_ k_ => XS.iadd X0.here hx rfl (hb hby own_d_method_4_57) rfl k_) ?_
  show own_Go p e below _ (s₁.setTop (mkF m 58 #[.val (.ref b), .val (.int (0 : Int32)), .val (.long v64), .second] [(.int (4 : Int32)), (.ref b)]))
  obtain ⟨cl101, Ar101, q101, S101, N101, H101, G101⟩ := id V
  have hi101 : ¬ ((4 : Int32) < 0 ∨ cl101.slots.size ≤ ((4 : Int32)).toNatClampNeg) := inb_of S101 ⟨by decide, by decide⟩
  have ha101 : cl101.slots[((4 : Int32)).toNatClampNeg]? = some (.int ((((v64.toUInt64 >>> ((24 : Int32) &&& 0x3f).toInt64.toUInt64).toInt64).toInt32).toInt8.toInt32)) := H101.at hi101 f4
  refine own_st (X0.baloadBytes hx (j := (4 : Int32)) (v := (.int ((((v64.toUInt64 >>> ((24 : Int32) &&& 0x3f).toInt64.toUInt64).toInt64).toInt32).toInt8.toInt32))) (by rw [e0]; exact Ar101.1) (State.isArrayOf_alike hZ.alike Ar101.2.1) Ar101.2.2 hi101 ha101 (g := (mkF m 58 #[.val (.ref b), .val (.int (0 : Int32)), .val (.long v64), .second] [(.int (4 : Int32)), (.ref b)])) rfl rfl (hb hby own_d_method_4_58)) ?_
  show own_Go p e below _ (s₁.setTop (mkF m 59 #[.val (.ref b), .val (.int (0 : Int32)), .val (.long v64), .second] [(.int ((((v64.toUInt64 >>> ((24 : Int32) &&& 0x3f).toInt64.toUInt64).toInt64).toInt32).toInt8.toInt32))]))
  refine own_st (fun u_ k_ => XS.lloadN X0.here hx rfl (hb hby own_d_method_4_59) rfl k_) ?_
  show own_Go p e below _ (s₁.setTop (mkF m 60 #[.val (.ref b), .val (.int (0 : Int32)), .val (.long v64), .second] [(.long v64), (.int ((((v64.toUInt64 >>> ((24 : Int32) &&& 0x3f).toInt64.toUInt64).toInt64).toInt32).toInt8.toInt32))]))
  refine own_st (fun u_ k_ => XS.bipush X0.here hx rfl (hb hby own_d_method_4_60) k_) ?_
  show own_Go p e below _ (s₁.setTop (mkF m 62 #[.val (.ref b), .val (.int (0 : Int32)), .val (.long v64), .second] [(.int (24 : Int32)), (.long v64), (.int ((((v64.toUInt64 >>> ((24 : Int32) &&& 0x3f).toInt64.toUInt64).toInt64).toInt32).toInt8.toInt32))]))
  refine own_st (fun u_ k_ => XS.lushr X0.here hx rfl (hb hby own_d_method_4_62) rfl k_) ?_
  show own_Go p e below _ (s₁.setTop (mkF m 63 #[.val (.ref b), .val (.int (0 : Int32)), .val (.long v64), .second] [(.long ((v64.toUInt64 >>> ((24 : Int32) &&& 0x3f).toInt64.toUInt64).toInt64)), (.int ((((v64.toUInt64 >>> ((24 : Int32) &&& 0x3f).toInt64.toUInt64).toInt64).toInt32).toInt8.toInt32))]))
  refine own_st (fun u_ k_ => XS.l2i X0.here hx rfl (hb hby own_d_method_4_63) rfl k_) ?_
  show own_Go p e below _ (s₁.setTop (mkF m 64 #[.val (.ref b), .val (.int (0 : Int32)), .val (.long v64), .second] [(.int (((v64.toUInt64 >>> ((24 : Int32) &&& 0x3f).toInt64.toUInt64).toInt64).toInt32)), (.int ((((v64.toUInt64 >>> ((24 : Int32) &&& 0x3f).toInt64.toUInt64).toInt64).toInt32).toInt8.toInt32))]))
  refine own_st (fun u_ k_ => XS.i2b X0.here hx rfl (hb hby own_d_method_4_64) rfl k_) ?_
  show own_Go p e below _ (s₁.setTop (mkF m 65 #[.val (.ref b), .val (.int (0 : Int32)), .val (.long v64), .second] [(.int ((((v64.toUInt64 >>> ((24 : Int32) &&& 0x3f).toInt64.toUInt64).toInt64).toInt32).toInt8.toInt32)), (.int ((((v64.toUInt64 >>> ((24 : Int32) &&& 0x3f).toInt64.toUInt64).toInt64).toInt32).toInt8.toInt32))]))
  refine own_st (fun u_ k_ => XS.icmpNo X0.here hx rfl (hb hby own_d_method_4_65) rfl (XT.ii_ne_f rfl) k_) ?_
  show own_Go p e below _ (s₁.setTop (mkF m 68 #[.val (.ref b), .val (.int (0 : Int32)), .val (.long v64), .second] []))
  refine own_st (fun u_ k_ => XS.aloadN X0.here hx rfl (hb hby own_d_method_4_68) rfl rfl k_) ?_
  show own_Go p e below _ (s₁.setTop (mkF m 69 #[.val (.ref b), .val (.int (0 : Int32)), .val (.long v64), .second] [(.ref b)]))
  refine own_st (fun u_ k_ => XS.iloadN X0.here hx rfl (hb hby own_d_method_4_69) rfl k_) ?_
  show own_Go p e below _ (s₁.setTop (mkF m 70 #[.val (.ref b), .val (.int (0 : Int32)), .val (.long v64), .second] [(.int (0 : Int32)), (.ref b)]))
  refine own_st (fun u_ k_ => XS.iconst X0.here hx rfl (hb hby own_d_method_4_70) k_) ?_
  show own_Go p e below _ (s₁.setTop (mkF m 71 #[.val (.ref b), .val (.int (0 : Int32)), .val (.long v64), .second] [(.int (5 : Int32)), (.int (0 : Int32)), (.ref b)]))
  refine own_st (fun u_ k_ => XS.iadd X0.here hx rfl (hb hby own_d_method_4_71) rfl k_) ?_
  show own_Go p e below _ (s₁.setTop (mkF m 72 #[.val (.ref b), .val (.int (0 : Int32)), .val (.long v64), .second] [(.int (5 : Int32)), (.ref b)]))
  obtain ⟨cl102, Ar102, q102, S102, N102, H102, G102⟩ := id V
  have hi102 : ¬ ((5 : Int32) < 0 ∨ cl102.slots.size ≤ ((5 : Int32)).toNatClampNeg) := inb_of S102 ⟨by decide, by decide⟩
  have ha102 : cl102.slots[((5 : Int32)).toNatClampNeg]? = some (.int ((((v64.toUInt64 >>> ((16 : Int32) &&& 0x3f).toInt64.toUInt64).toInt64).toInt32).toInt8.toInt32)) := H102.at hi102 f5
  refine own_st (X0.baloadBytes hx (j := (5 : Int32)) (v := (.int ((((v64.toUInt64 >>> ((16 : Int32) &&& 0x3f).toInt64.toUInt64).toInt64).toInt32).toInt8.toInt32))) (by rw [e0]; exact Ar102.1) (State.isArrayOf_alike hZ.alike Ar102.2.1) Ar102.2.2 hi102 ha102 (g := (mkF m 72 #[.val (.ref b), .val (.int (0 : Int32)), .val (.long v64), .second] [(.int (5 : Int32)), (.ref b)])) rfl rfl (hb hby own_d_method_4_72)) ?_
  show own_Go p e below _ (s₁.setTop (mkF m 73 #[.val (.ref b), .val (.int (0 : Int32)), .val (.long v64), .second] [(.int ((((v64.toUInt64 >>> ((16 : Int32) &&& 0x3f).toInt64.toUInt64).toInt64).toInt32).toInt8.toInt32))]))
  refine own_st (fun u_ k_ => XS.lloadN X0.here hx rfl (hb hby own_d_method_4_73) rfl k_) ?_
  show own_Go p e below _ (s₁.setTop (mkF m 74 #[.val (.ref b), .val (.int (0 : Int32)), .val (.long v64), .second] [(.long v64), (.int ((((v64.toUInt64 >>> ((16 : Int32) &&& 0x3f).toInt64.toUInt64).toInt64).toInt32).toInt8.toInt32))]))
  refine own_st (fun u_ k_ => XS.bipush X0.here hx rfl (hb hby own_d_method_4_74) k_) ?_
  show own_Go p e below _ (s₁.setTop (mkF m 76 #[.val (.ref b), .val (.int (0 : Int32)), .val (.long v64), .second] [(.int (16 : Int32)), (.long v64), (.int ((((v64.toUInt64 >>> ((16 : Int32) &&& 0x3f).toInt64.toUInt64).toInt64).toInt32).toInt8.toInt32))]))
  refine own_st (fun u_ k_ => XS.lushr X0.here hx rfl (hb hby own_d_method_4_76) rfl k_) ?_
  show own_Go p e below _ (s₁.setTop (mkF m 77 #[.val (.ref b), .val (.int (0 : Int32)), .val (.long v64), .second] [(.long ((v64.toUInt64 >>> ((16 : Int32) &&& 0x3f).toInt64.toUInt64).toInt64)), (.int ((((v64.toUInt64 >>> ((16 : Int32) &&& 0x3f).toInt64.toUInt64).toInt64).toInt32).toInt8.toInt32))]))
  refine own_st (fun u_ k_ => XS.l2i X0.here hx rfl (hb hby own_d_method_4_77) rfl k_) ?_
  show own_Go p e below _ (s₁.setTop (mkF m 78 #[.val (.ref b), .val (.int (0 : Int32)), .val (.long v64), .second] [(.int (((v64.toUInt64 >>> ((16 : Int32) &&& 0x3f).toInt64.toUInt64).toInt64).toInt32)), (.int ((((v64.toUInt64 >>> ((16 : Int32) &&& 0x3f).toInt64.toUInt64).toInt64).toInt32).toInt8.toInt32))]))
  refine own_st (fun u_ k_ => XS.i2b X0.here hx rfl (hb hby own_d_method_4_78) rfl k_) ?_
  show own_Go p e below _ (s₁.setTop (mkF m 79 #[.val (.ref b), .val (.int (0 : Int32)), .val (.long v64), .second] [(.int ((((v64.toUInt64 >>> ((16 : Int32) &&& 0x3f).toInt64.toUInt64).toInt64).toInt32).toInt8.toInt32)), (.int ((((v64.toUInt64 >>> ((16 : Int32) &&& 0x3f).toInt64.toUInt64).toInt64).toInt32).toInt8.toInt32))]))
  refine own_st (fun u_ k_ => XS.icmpNo X0.here hx rfl (hb hby own_d_method_4_79) rfl (XT.ii_ne_f rfl) k_) ?_
  show own_Go p e below _ (s₁.setTop (mkF m 82 #[.val (.ref b), .val (.int (0 : Int32)), .val (.long v64), .second] []))
  refine own_st (fun u_ k_ => XS.aloadN X0.here hx rfl (hb hby own_d_method_4_82) rfl rfl k_) ?_
  show own_Go p e below _ (s₁.setTop (mkF m 83 #[.val (.ref b), .val (.int (0 : Int32)), .val (.long v64), .second] [(.ref b)]))
  refine own_st (fun u_ k_ => XS.iloadN X0.here hx rfl (hb hby own_d_method_4_83) rfl k_) ?_
  show own_Go p e below _ (s₁.setTop (mkF m 84 #[.val (.ref b), .val (.int (0 : Int32)), .val (.long v64), .second] [(.int (0 : Int32)), (.ref b)]))
  refine own_st (fun u_ k_ => XS.bipush X0.here hx rfl (hb hby own_d_method_4_84) k_) ?_
  show own_Go p e below _ (s₁.setTop (mkF m 86 #[.val (.ref b), .val (.int (0 : Int32)), .val (.long v64), .second] [(.int (6 : Int32)), (.int (0 : Int32)), (.ref b)]))
  refine own_st (fun u_ k_ => XS.iadd X0.here hx rfl (hb hby own_d_method_4_86) rfl k_) ?_
  show own_Go p e below _ (s₁.setTop (mkF m 87 #[.val (.ref b), .val (.int (0 : Int32)), .val (.long v64), .second] [(.int (6 : Int32)), (.ref b)]))
  obtain ⟨cl103, Ar103, q103, S103, N103, H103, G103⟩ := id V
  have hi103 : ¬ ((6 : Int32) < 0 ∨ cl103.slots.size ≤ ((6 : Int32)).toNatClampNeg) := inb_of S103 ⟨by decide, by decide⟩
  have ha103 : cl103.slots[((6 : Int32)).toNatClampNeg]? = some (.int ((((v64.toUInt64 >>> ((8 : Int32) &&& 0x3f).toInt64.toUInt64).toInt64).toInt32).toInt8.toInt32)) := H103.at hi103 f6
  refine own_st (X0.baloadBytes hx (j := (6 : Int32)) (v := (.int ((((v64.toUInt64 >>> ((8 : Int32) &&& 0x3f).toInt64.toUInt64).toInt64).toInt32).toInt8.toInt32))) (by rw [e0]; exact Ar103.1) (State.isArrayOf_alike hZ.alike Ar103.2.1) Ar103.2.2 hi103 ha103 (g := (mkF m 87 #[.val (.ref b), .val (.int (0 : Int32)), .val (.long v64), .second] [(.int (6 : Int32)), (.ref b)])) rfl rfl (hb hby own_d_method_4_87)) ?_
  show own_Go p e below _ (s₁.setTop (mkF m 88 #[.val (.ref b), .val (.int (0 : Int32)), .val (.long v64), .second] [(.int ((((v64.toUInt64 >>> ((8 : Int32) &&& 0x3f).toInt64.toUInt64).toInt64).toInt32).toInt8.toInt32))]))
  refine own_st (fun u_ k_ => XS.lloadN X0.here hx rfl (hb hby own_d_method_4_88) rfl k_) ?_
  show own_Go p e below _ (s₁.setTop (mkF m 89 #[.val (.ref b), .val (.int (0 : Int32)), .val (.long v64), .second] [(.long v64), (.int ((((v64.toUInt64 >>> ((8 : Int32) &&& 0x3f).toInt64.toUInt64).toInt64).toInt32).toInt8.toInt32))]))
  refine own_st (fun u_ k_ => XS.bipush X0.here hx rfl (hb hby own_d_method_4_89) k_) ?_
  show own_Go p e below _ (s₁.setTop (mkF m 91 #[.val (.ref b), .val (.int (0 : Int32)), .val (.long v64), .second] [(.int (8 : Int32)), (.long v64), (.int ((((v64.toUInt64 >>> ((8 : Int32) &&& 0x3f).toInt64.toUInt64).toInt64).toInt32).toInt8.toInt32))]))
  refine own_st (fun u_ k_ => XS.lushr X0.here hx rfl (hb hby own_d_method_4_91) rfl k_) ?_
  show own_Go p e below _ (s₁.setTop (mkF m 92 #[.val (.ref b), .val (.int (0 : Int32)), .val (.long v64), .second] [(.long ((v64.toUInt64 >>> ((8 : Int32) &&& 0x3f).toInt64.toUInt64).toInt64)), (.int ((((v64.toUInt64 >>> ((8 : Int32) &&& 0x3f).toInt64.toUInt64).toInt64).toInt32).toInt8.toInt32))]))
  refine own_st (fun u_ k_ => XS.l2i X0.here hx rfl (hb hby own_d_method_4_92) rfl k_) ?_
  show own_Go p e below _ (s₁.setTop (mkF m 93 #[.val (.ref b), .val (.int (0 : Int32)), .val (.long v64), .second] [(.int (((v64.toUInt64 >>> ((8 : Int32) &&& 0x3f).toInt64.toUInt64).toInt64).toInt32)), (.int ((((v64.toUInt64 >>> ((8 : Int32) &&& 0x3f).toInt64.toUInt64).toInt64).toInt32).toInt8.toInt32))]))
  refine own_st (fun u_ k_ => XS.i2b X0.here hx rfl (hb hby own_d_method_4_93) rfl k_) ?_
  show own_Go p e below _ (s₁.setTop (mkF m 94 #[.val (.ref b), .val (.int (0 : Int32)), .val (.long v64), .second] [(.int ((((v64.toUInt64 >>> ((8 : Int32) &&& 0x3f).toInt64.toUInt64).toInt64).toInt32).toInt8.toInt32)), (.int ((((v64.toUInt64 >>> ((8 : Int32) &&& 0x3f).toInt64.toUInt64).toInt64).toInt32).toInt8.toInt32))]))
  refine own_st (fun u_ k_ => XS.icmpNo X0.here hx rfl (hb hby own_d_method_4_94) rfl (XT.ii_ne_f rfl) k_) ?_
  show own_Go p e below _ (s₁.setTop (mkF m 97 #[.val (.ref b), .val (.int (0 : Int32)), .val (.long v64), .second] []))
  refine own_st (fun u_ k_ => XS.aloadN X0.here hx rfl (hb hby own_d_method_4_97) rfl rfl k_) ?_
  show own_Go p e below _ (s₁.setTop (mkF m 98 #[.val (.ref b), .val (.int (0 : Int32)), .val (.long v64), .second] [(.ref b)]))
  refine own_st (fun u_ k_ => XS.iloadN X0.here hx rfl (hb hby own_d_method_4_98) rfl k_) ?_
  show own_Go p e below _ (s₁.setTop (mkF m 99 #[.val (.ref b), .val (.int (0 : Int32)), .val (.long v64), .second] [(.int (0 : Int32)), (.ref b)]))
  refine own_st (fun u_ k_ => XS.bipush X0.here hx rfl (hb hby own_d_method_4_99) k_) ?_
  show own_Go p e below _ (s₁.setTop (mkF m 101 #[.val (.ref b), .val (.int (0 : Int32)), .val (.long v64), .second] [(.int (7 : Int32)), (.int (0 : Int32)), (.ref b)]))
  refine own_st (fun u_ k_ => XS.iadd X0.here hx rfl (hb hby own_d_method_4_101) rfl k_) ?_
  show own_Go p e below _ (s₁.setTop (mkF m 102 #[.val (.ref b), .val (.int (0 : Int32)), .val (.long v64), .second] [(.int (7 : Int32)), (.ref b)]))
  obtain ⟨cl104, Ar104, q104, S104, N104, H104, G104⟩ := id V
  have hi104 : ¬ ((7 : Int32) < 0 ∨ cl104.slots.size ≤ ((7 : Int32)).toNatClampNeg) := inb_of S104 ⟨by decide, by decide⟩
  have ha104 : cl104.slots[((7 : Int32)).toNatClampNeg]? = some (.int ((v64.toInt32).toInt8.toInt32)) := H104.at hi104 f7
  refine own_st (X0.baloadBytes hx (j := (7 : Int32)) (v := (.int ((v64.toInt32).toInt8.toInt32))) (by rw [e0]; exact Ar104.1) (State.isArrayOf_alike hZ.alike Ar104.2.1) Ar104.2.2 hi104 ha104 (g := (mkF m 102 #[.val (.ref b), .val (.int (0 : Int32)), .val (.long v64), .second] [(.int (7 : Int32)), (.ref b)])) rfl rfl (hb hby own_d_method_4_102)) ?_
  show own_Go p e below _ (s₁.setTop (mkF m 103 #[.val (.ref b), .val (.int (0 : Int32)), .val (.long v64), .second] [(.int ((v64.toInt32).toInt8.toInt32))]))
  refine own_st (fun u_ k_ => XS.lloadN X0.here hx rfl (hb hby own_d_method_4_103) rfl k_) ?_
  show own_Go p e below _ (s₁.setTop (mkF m 104 #[.val (.ref b), .val (.int (0 : Int32)), .val (.long v64), .second] [(.long v64), (.int ((v64.toInt32).toInt8.toInt32))]))
  refine own_st (fun u_ k_ => XS.l2i X0.here hx rfl (hb hby own_d_method_4_104) rfl k_) ?_
  show own_Go p e below _ (s₁.setTop (mkF m 105 #[.val (.ref b), .val (.int (0 : Int32)), .val (.long v64), .second] [(.int (v64.toInt32)), (.int ((v64.toInt32).toInt8.toInt32))]))
  refine own_st (fun u_ k_ => XS.i2b X0.here hx rfl (hb hby own_d_method_4_105) rfl k_) ?_
  show own_Go p e below _ (s₁.setTop (mkF m 106 #[.val (.ref b), .val (.int (0 : Int32)), .val (.long v64), .second] [(.int ((v64.toInt32).toInt8.toInt32)), (.int ((v64.toInt32).toInt8.toInt32))]))
  refine own_st (fun u_ k_ => XS.icmpNo X0.here hx rfl (hb hby own_d_method_4_106) rfl (XT.ii_ne_f rfl) k_) ?_
  show own_Go p e below _ (s₁.setTop (mkF m 109 #[.val (.ref b), .val (.int (0 : Int32)), .val (.long v64), .second] []))
  refine own_st (fun u_ k_ => XS.iconst X0.here hx rfl (hb hby own_d_method_4_109) k_) ?_
  show own_Go p e below _ (s₁.setTop (mkF m 110 #[.val (.ref b), .val (.int (0 : Int32)), .val (.long v64), .second] [(.int (1 : Int32))]))
  refine own_st (fun u_ k_ => XS.goto X0.here hx rfl (pc0 := 110) (pc' := 114) rfl (hb hby own_d_method_4_110) (by decide) (by decide) k_) ?_
  show own_Go p e below _ (s₁.setTop (mkF m 114 #[.val (.ref b), .val (.int (0 : Int32)), .val (.long v64), .second] [(.int (1 : Int32))]))
  exact own_retX X0 hx hlk hret rfl (Or.inl ⟨rfl, by simp, _, rfl⟩) (hb hby own_d_method_4_114) (by decide) (by decide) (show QrmE0 Z we b kb vs v64 h0 n0 (some (.int (1 : Int32))) s₁.heap _ from (by rw [e0]; exact ⟨rfl, N0, rfl⟩))
theorem own_ef_rmE8 (m : MethodId) (b : Addr) (v64 : Int64)  : entryFrame m #[(.ref b), (.int (8 : Int32)), (.long v64)] 4 = mkF m 0 #[.val (.ref b), .val (.int (8 : Int32)), .val (.long v64), .second] [] := by first | (simp [entryFrame, mkF, argsToLocals, Value.category, maxLocals]; done) | rfl
def QrmE8 (Z : State) (we : Addr) (b : Addr) (kb : ClassId) (vs : List Value) (v64 : Int64) (h0 : Heap) (n0 : Nat) (v : Option Value) (h : Heap) (L : List Loc) : Prop := v = some (.int (1 : Int32)) ∧ Fr n0 L ∧ h = h0
set_option maxRecDepth 65536 in
set_option maxHeartbeats 40000000 in
theorem rmE8 (l : Launch) (Z : State) (a0 : Array Value) (hw : own_H a0 Z) (ws : List Jvm.Cond) (we : Addr) (hS : own_S Z we) (b : Addr) (kb : ClassId) (vs : List Value) (v64 : Int64) (h0 : Heap) (n0 : Nat) (O0 : Old Z n0 h0) (V : Arv Z h0 b kb .byte (32 : Int32) vs (.int (0 : Int32))) (f0 : vs.getD 8 (.int (0 : Int32)) = .int ((((v64.toUInt64 >>> ((56 : Int32) &&& 0x3f).toInt64.toUInt64).toInt64).toInt32).toInt8.toInt32)) (f1 : vs.getD 9 (.int (0 : Int32)) = .int ((((v64.toUInt64 >>> ((48 : Int32) &&& 0x3f).toInt64.toUInt64).toInt64).toInt32).toInt8.toInt32)) (f2 : vs.getD 10 (.int (0 : Int32)) = .int ((((v64.toUInt64 >>> ((40 : Int32) &&& 0x3f).toInt64.toUInt64).toInt64).toInt32).toInt8.toInt32)) (f3 : vs.getD 11 (.int (0 : Int32)) = .int ((((v64.toUInt64 >>> ((32 : Int32) &&& 0x3f).toInt64.toUInt64).toInt64).toInt32).toInt8.toInt32)) (f4 : vs.getD 12 (.int (0 : Int32)) = .int ((((v64.toUInt64 >>> ((24 : Int32) &&& 0x3f).toInt64.toUInt64).toInt64).toInt32).toInt8.toInt32)) (f5 : vs.getD 13 (.int (0 : Int32)) = .int ((((v64.toUInt64 >>> ((16 : Int32) &&& 0x3f).toInt64.toUInt64).toInt64).toInt32).toInt8.toInt32)) (f6 : vs.getD 14 (.int (0 : Int32)) = .int ((((v64.toUInt64 >>> ((8 : Int32) &&& 0x3f).toInt64.toUInt64).toInt64).toInt32).toInt8.toInt32)) (f7 : vs.getD 15 (.int (0 : Int32)) = .int ((v64.toInt32).toInt8.toInt32)) :
    own_Met l own_y_166 method_4_code 4 (some .boolean) ws ({ frames := 0, cells := 0, slots := 0, locals := 0 } : Room) Z h0 #[(.ref b), (.int (8 : Int32)), (.long v64)] (QrmE8 Z we b kb vs v64 h0 n0) := by
  refine own_body (plainFor_of_name own_pn_78) ?_
  intro p e s m below meth c s₁ hx hby hml hown hnm hret hlk hZ e0 X0
  have N0 := Fr.nil n0
  refine own_st (fun u_ k_ => castTop (own_ef_rmE8 m b v64) k_) ?_
  show own_Go p e below _ (s₁.setTop (mkF m 0 #[.val (.ref b), .val (.int (8 : Int32)), .val (.long v64), .second] []))
  refine own_st (fun u_ k_ => XS.aloadN X0.here hx rfl (hb hby own_d_method_4_0) rfl rfl k_) ?_
  show own_Go p e below _ (s₁.setTop (mkF m 1 #[.val (.ref b), .val (.int (8 : Int32)), .val (.long v64), .second] [(.ref b)]))
  refine own_st (fun u_ k_ => XS.iloadN X0.here hx rfl (hb hby own_d_method_4_1) rfl k_) ?_
  show own_Go p e below _ (s₁.setTop (mkF m 2 #[.val (.ref b), .val (.int (8 : Int32)), .val (.long v64), .second] [(.int (8 : Int32)), (.ref b)]))
  obtain ⟨cl105, Ar105, q105, S105, N105, H105, G105⟩ := id V
  have hi105 : ¬ ((8 : Int32) < 0 ∨ cl105.slots.size ≤ ((8 : Int32)).toNatClampNeg) := inb_of S105 ⟨by decide, by decide⟩
  have ha105 : cl105.slots[((8 : Int32)).toNatClampNeg]? = some (.int ((((v64.toUInt64 >>> ((56 : Int32) &&& 0x3f).toInt64.toUInt64).toInt64).toInt32).toInt8.toInt32)) := H105.at hi105 f0
  refine own_st (X0.baloadBytes hx (j := (8 : Int32)) (v := (.int ((((v64.toUInt64 >>> ((56 : Int32) &&& 0x3f).toInt64.toUInt64).toInt64).toInt32).toInt8.toInt32))) (by rw [e0]; exact Ar105.1) (State.isArrayOf_alike hZ.alike Ar105.2.1) Ar105.2.2 hi105 ha105 (g := (mkF m 2 #[.val (.ref b), .val (.int (8 : Int32)), .val (.long v64), .second] [(.int (8 : Int32)), (.ref b)])) rfl rfl (hb hby own_d_method_4_2)) ?_
  show own_Go p e below _ (s₁.setTop (mkF m 3 #[.val (.ref b), .val (.int (8 : Int32)), .val (.long v64), .second] [(.int ((((v64.toUInt64 >>> ((56 : Int32) &&& 0x3f).toInt64.toUInt64).toInt64).toInt32).toInt8.toInt32))]))
  refine own_st (fun u_ k_ => XS.lloadN X0.here hx rfl (hb hby own_d_method_4_3) rfl k_) ?_
  show own_Go p e below _ (s₁.setTop (mkF m 4 #[.val (.ref b), .val (.int (8 : Int32)), .val (.long v64), .second] [(.long v64), (.int ((((v64.toUInt64 >>> ((56 : Int32) &&& 0x3f).toInt64.toUInt64).toInt64).toInt32).toInt8.toInt32))]))
  refine own_st (fun u_ k_ => XS.bipush X0.here hx rfl (hb hby own_d_method_4_4) k_) ?_
  show own_Go p e below _ (s₁.setTop (mkF m 6 #[.val (.ref b), .val (.int (8 : Int32)), .val (.long v64), .second] [(.int (56 : Int32)), (.long v64), (.int ((((v64.toUInt64 >>> ((56 : Int32) &&& 0x3f).toInt64.toUInt64).toInt64).toInt32).toInt8.toInt32))]))
  refine own_st (fun u_ k_ => XS.lushr X0.here hx rfl (hb hby own_d_method_4_6) rfl k_) ?_
  show own_Go p e below _ (s₁.setTop (mkF m 7 #[.val (.ref b), .val (.int (8 : Int32)), .val (.long v64), .second] [(.long ((v64.toUInt64 >>> ((56 : Int32) &&& 0x3f).toInt64.toUInt64).toInt64)), (.int ((((v64.toUInt64 >>> ((56 : Int32) &&& 0x3f).toInt64.toUInt64).toInt64).toInt32).toInt8.toInt32))]))
  refine own_st (fun u_ k_ => XS.l2i X0.here hx rfl (hb hby own_d_method_4_7) rfl k_) ?_
  show own_Go p e below _ (s₁.setTop (mkF m 8 #[.val (.ref b), .val (.int (8 : Int32)), .val (.long v64), .second] [(.int (((v64.toUInt64 >>> ((56 : Int32) &&& 0x3f).toInt64.toUInt64).toInt64).toInt32)), (.int ((((v64.toUInt64 >>> ((56 : Int32) &&& 0x3f).toInt64.toUInt64).toInt64).toInt32).toInt8.toInt32))]))
  refine own_st (fun u_ k_ => XS.i2b X0.here hx rfl (hb hby own_d_method_4_8) rfl k_) ?_
  show own_Go p e below _ (s₁.setTop (mkF m 9 #[.val (.ref b), .val (.int (8 : Int32)), .val (.long v64), .second] [(.int ((((v64.toUInt64 >>> ((56 : Int32) &&& 0x3f).toInt64.toUInt64).toInt64).toInt32).toInt8.toInt32)), (.int ((((v64.toUInt64 >>> ((56 : Int32) &&& 0x3f).toInt64.toUInt64).toInt64).toInt32).toInt8.toInt32))]))
  refine own_st (fun u_ k_ => XS.icmpNo X0.here hx rfl (hb hby own_d_method_4_9) rfl (XT.ii_ne_f rfl) k_) ?_
  show own_Go p e below _ (s₁.setTop (mkF m 12 #[.val (.ref b), .val (.int (8 : Int32)), .val (.long v64), .second] []))
  refine own_st (fun u_ k_ => XS.aloadN X0.here hx rfl (hb hby own_d_method_4_12) rfl rfl k_) ?_
  show own_Go p e below _ (s₁.setTop (mkF m 13 #[.val (.ref b), .val (.int (8 : Int32)), .val (.long v64), .second] [(.ref b)]))
  refine own_st (fun u_ k_ => XS.iloadN X0.here hx rfl (hb hby own_d_method_4_13) rfl k_) ?_
  show own_Go p e below _ (s₁.setTop (mkF m 14 #[.val (.ref b), .val (.int (8 : Int32)), .val (.long v64), .second] [(.int (8 : Int32)), (.ref b)]))
  refine own_st (fun u_ k_ => XS.iconst X0.here hx rfl (hb hby own_d_method_4_14) k_) ?_
  show own_Go p e below _ (s₁.setTop (mkF m 15 #[.val (.ref b), .val (.int (8 : Int32)), .val (.long v64), .second] [(.int (1 : Int32)), (.int (8 : Int32)), (.ref b)]))
  refine own_st (fun u_ k_ => XS.iadd X0.here hx rfl (hb hby own_d_method_4_15) rfl k_) ?_
  show own_Go p e below _ (s₁.setTop (mkF m 16 #[.val (.ref b), .val (.int (8 : Int32)), .val (.long v64), .second] [(.int (9 : Int32)), (.ref b)]))
  obtain ⟨cl106, Ar106, q106, S106, N106, H106, G106⟩ := id V
  have hi106 : ¬ ((9 : Int32) < 0 ∨ cl106.slots.size ≤ ((9 : Int32)).toNatClampNeg) := inb_of S106 ⟨by decide, by decide⟩
  have ha106 : cl106.slots[((9 : Int32)).toNatClampNeg]? = some (.int ((((v64.toUInt64 >>> ((48 : Int32) &&& 0x3f).toInt64.toUInt64).toInt64).toInt32).toInt8.toInt32)) := H106.at hi106 f1
  refine own_st (X0.baloadBytes hx (j := (9 : Int32)) (v := (.int ((((v64.toUInt64 >>> ((48 : Int32) &&& 0x3f).toInt64.toUInt64).toInt64).toInt32).toInt8.toInt32))) (by rw [e0]; exact Ar106.1) (State.isArrayOf_alike hZ.alike Ar106.2.1) Ar106.2.2 hi106 ha106 (g := (mkF m 16 #[.val (.ref b), .val (.int (8 : Int32)), .val (.long v64), .second] [(.int (9 : Int32)), (.ref b)])) rfl rfl (hb hby own_d_method_4_16)) ?_
  show own_Go p e below _ (s₁.setTop (mkF m 17 #[.val (.ref b), .val (.int (8 : Int32)), .val (.long v64), .second] [(.int ((((v64.toUInt64 >>> ((48 : Int32) &&& 0x3f).toInt64.toUInt64).toInt64).toInt32).toInt8.toInt32))]))
  refine own_st (fun u_ k_ => XS.lloadN X0.here hx rfl (hb hby own_d_method_4_17) rfl k_) ?_
  show own_Go p e below _ (s₁.setTop (mkF m 18 #[.val (.ref b), .val (.int (8 : Int32)), .val (.long v64), .second] [(.long v64), (.int ((((v64.toUInt64 >>> ((48 : Int32) &&& 0x3f).toInt64.toUInt64).toInt64).toInt32).toInt8.toInt32))]))
  refine own_st (fun u_ k_ => XS.bipush X0.here hx rfl (hb hby own_d_method_4_18) k_) ?_
  show own_Go p e below _ (s₁.setTop (mkF m 20 #[.val (.ref b), .val (.int (8 : Int32)), .val (.long v64), .second] [(.int (48 : Int32)), (.long v64), (.int ((((v64.toUInt64 >>> ((48 : Int32) &&& 0x3f).toInt64.toUInt64).toInt64).toInt32).toInt8.toInt32))]))
  refine own_st (fun u_ k_ => XS.lushr X0.here hx rfl (hb hby own_d_method_4_20) rfl k_) ?_
  show own_Go p e below _ (s₁.setTop (mkF m 21 #[.val (.ref b), .val (.int (8 : Int32)), .val (.long v64), .second] [(.long ((v64.toUInt64 >>> ((48 : Int32) &&& 0x3f).toInt64.toUInt64).toInt64)), (.int ((((v64.toUInt64 >>> ((48 : Int32) &&& 0x3f).toInt64.toUInt64).toInt64).toInt32).toInt8.toInt32))]))
  refine own_st (fun u_ k_ => XS.l2i X0.here hx rfl (hb hby own_d_method_4_21) rfl k_) ?_
  show own_Go p e below _ (s₁.setTop (mkF m 22 #[.val (.ref b), .val (.int (8 : Int32)), .val (.long v64), .second] [(.int (((v64.toUInt64 >>> ((48 : Int32) &&& 0x3f).toInt64.toUInt64).toInt64).toInt32)), (.int ((((v64.toUInt64 >>> ((48 : Int32) &&& 0x3f).toInt64.toUInt64).toInt64).toInt32).toInt8.toInt32))]))
  refine own_st (fun u_ k_ => XS.i2b X0.here hx rfl (hb hby own_d_method_4_22) rfl k_) ?_
  show own_Go p e below _ (s₁.setTop (mkF m 23 #[.val (.ref b), .val (.int (8 : Int32)), .val (.long v64), .second] [(.int ((((v64.toUInt64 >>> ((48 : Int32) &&& 0x3f).toInt64.toUInt64).toInt64).toInt32).toInt8.toInt32)), (.int ((((v64.toUInt64 >>> ((48 : Int32) &&& 0x3f).toInt64.toUInt64).toInt64).toInt32).toInt8.toInt32))]))
  refine own_st (fun u_ k_ => XS.icmpNo X0.here hx rfl (hb hby own_d_method_4_23) rfl (XT.ii_ne_f rfl) k_) ?_
  show own_Go p e below _ (s₁.setTop (mkF m 26 #[.val (.ref b), .val (.int (8 : Int32)), .val (.long v64), .second] []))
  refine own_st (fun u_ k_ => XS.aloadN X0.here hx rfl (hb hby own_d_method_4_26) rfl rfl k_) ?_
  show own_Go p e below _ (s₁.setTop (mkF m 27 #[.val (.ref b), .val (.int (8 : Int32)), .val (.long v64), .second] [(.ref b)]))
  refine own_st (fun u_ k_ => XS.iloadN X0.here hx rfl (hb hby own_d_method_4_27) rfl k_) ?_
  show own_Go p e below _ (s₁.setTop (mkF m 28 #[.val (.ref b), .val (.int (8 : Int32)), .val (.long v64), .second] [(.int (8 : Int32)), (.ref b)]))
  refine own_st (fun u_ k_ => XS.iconst X0.here hx rfl (hb hby own_d_method_4_28) k_) ?_
  show own_Go p e below _ (s₁.setTop (mkF m 29 #[.val (.ref b), .val (.int (8 : Int32)), .val (.long v64), .second] [(.int (2 : Int32)), (.int (8 : Int32)), (.ref b)]))
  refine own_st (fun u_ k_ => XS.iadd X0.here hx rfl (hb hby own_d_method_4_29) rfl k_) ?_
  show own_Go p e below _ (s₁.setTop (mkF m 30 #[.val (.ref b), .val (.int (8 : Int32)), .val (.long v64), .second] [(.int (10 : Int32)), (.ref b)]))
  obtain ⟨cl107, Ar107, q107, S107, N107, H107, G107⟩ := id V
  have hi107 : ¬ ((10 : Int32) < 0 ∨ cl107.slots.size ≤ ((10 : Int32)).toNatClampNeg) := inb_of S107 ⟨by decide, by decide⟩
  have ha107 : cl107.slots[((10 : Int32)).toNatClampNeg]? = some (.int ((((v64.toUInt64 >>> ((40 : Int32) &&& 0x3f).toInt64.toUInt64).toInt64).toInt32).toInt8.toInt32)) := H107.at hi107 f2
  refine own_st (X0.baloadBytes hx (j := (10 : Int32)) (v := (.int ((((v64.toUInt64 >>> ((40 : Int32) &&& 0x3f).toInt64.toUInt64).toInt64).toInt32).toInt8.toInt32))) (by rw [e0]; exact Ar107.1) (State.isArrayOf_alike hZ.alike Ar107.2.1) Ar107.2.2 hi107 ha107 (g := (mkF m 30 #[.val (.ref b), .val (.int (8 : Int32)), .val (.long v64), .second] [(.int (10 : Int32)), (.ref b)])) rfl rfl (hb hby own_d_method_4_30)) ?_
  show own_Go p e below _ (s₁.setTop (mkF m 31 #[.val (.ref b), .val (.int (8 : Int32)), .val (.long v64), .second] [(.int ((((v64.toUInt64 >>> ((40 : Int32) &&& 0x3f).toInt64.toUInt64).toInt64).toInt32).toInt8.toInt32))]))
  refine own_st (fun u_ k_ => XS.lloadN X0.here hx rfl (hb hby own_d_method_4_31) rfl k_) ?_
  show own_Go p e below _ (s₁.setTop (mkF m 32 #[.val (.ref b), .val (.int (8 : Int32)), .val (.long v64), .second] [(.long v64), (.int ((((v64.toUInt64 >>> ((40 : Int32) &&& 0x3f).toInt64.toUInt64).toInt64).toInt32).toInt8.toInt32))]))
  refine own_st (fun u_ k_ => XS.bipush X0.here hx rfl (hb hby own_d_method_4_32) k_) ?_
  show own_Go p e below _ (s₁.setTop (mkF m 34 #[.val (.ref b), .val (.int (8 : Int32)), .val (.long v64), .second] [(.int (40 : Int32)), (.long v64), (.int ((((v64.toUInt64 >>> ((40 : Int32) &&& 0x3f).toInt64.toUInt64).toInt64).toInt32).toInt8.toInt32))]))
  refine own_st (fun u_ k_ => XS.lushr X0.here hx rfl (hb hby own_d_method_4_34) rfl k_) ?_
  show own_Go p e below _ (s₁.setTop (mkF m 35 #[.val (.ref b), .val (.int (8 : Int32)), .val (.long v64), .second] [(.long ((v64.toUInt64 >>> ((40 : Int32) &&& 0x3f).toInt64.toUInt64).toInt64)), (.int ((((v64.toUInt64 >>> ((40 : Int32) &&& 0x3f).toInt64.toUInt64).toInt64).toInt32).toInt8.toInt32))]))
  refine own_st (fun u_ k_ => XS.l2i X0.here hx rfl (hb hby own_d_method_4_35) rfl k_) ?_
  show own_Go p e below _ (s₁.setTop (mkF m 36 #[.val (.ref b), .val (.int (8 : Int32)), .val (.long v64), .second] [(.int (((v64.toUInt64 >>> ((40 : Int32) &&& 0x3f).toInt64.toUInt64).toInt64).toInt32)), (.int ((((v64.toUInt64 >>> ((40 : Int32) &&& 0x3f).toInt64.toUInt64).toInt64).toInt32).toInt8.toInt32))]))
  refine own_st (fun u_ k_ => XS.i2b X0.here hx rfl (hb hby own_d_method_4_36) rfl k_) ?_
  show own_Go p e below _ (s₁.setTop (mkF m 37 #[.val (.ref b), .val (.int (8 : Int32)), .val (.long v64), .second] [(.int ((((v64.toUInt64 >>> ((40 : Int32) &&& 0x3f).toInt64.toUInt64).toInt64).toInt32).toInt8.toInt32)), (.int ((((v64.toUInt64 >>> ((40 : Int32) &&& 0x3f).toInt64.toUInt64).toInt64).toInt32).toInt8.toInt32))]))
  refine own_st (fun u_ k_ => XS.icmpNo X0.here hx rfl (hb hby own_d_method_4_37) rfl (XT.ii_ne_f rfl) k_) ?_
  show own_Go p e below _ (s₁.setTop (mkF m 40 #[.val (.ref b), .val (.int (8 : Int32)), .val (.long v64), .second] []))
  refine own_st (fun u_ k_ => XS.aloadN X0.here hx rfl (hb hby own_d_method_4_40) rfl rfl k_) ?_
  show own_Go p e below _ (s₁.setTop (mkF m 41 #[.val (.ref b), .val (.int (8 : Int32)), .val (.long v64), .second] [(.ref b)]))
  refine own_st (fun u_ k_ => XS.iloadN X0.here hx rfl (hb hby own_d_method_4_41) rfl k_) ?_
  show own_Go p e below _ (s₁.setTop (mkF m 42 #[.val (.ref b), .val (.int (8 : Int32)), .val (.long v64), .second] [(.int (8 : Int32)), (.ref b)]))
  refine own_st (fun u_ k_ => XS.iconst X0.here hx rfl (hb hby own_d_method_4_42) k_) ?_
  show own_Go p e below _ (s₁.setTop (mkF m 43 #[.val (.ref b), .val (.int (8 : Int32)), .val (.long v64), .second] [(.int (3 : Int32)), (.int (8 : Int32)), (.ref b)]))
  refine own_st (fun u_ k_ => XS.iadd X0.here hx rfl (hb hby own_d_method_4_43) rfl k_) ?_
  show own_Go p e below _ (s₁.setTop (mkF m 44 #[.val (.ref b), .val (.int (8 : Int32)), .val (.long v64), .second] [(.int (11 : Int32)), (.ref b)]))
  obtain ⟨cl108, Ar108, q108, S108, N108, H108, G108⟩ := id V
  have hi108 : ¬ ((11 : Int32) < 0 ∨ cl108.slots.size ≤ ((11 : Int32)).toNatClampNeg) := inb_of S108 ⟨by decide, by decide⟩
  have ha108 : cl108.slots[((11 : Int32)).toNatClampNeg]? = some (.int ((((v64.toUInt64 >>> ((32 : Int32) &&& 0x3f).toInt64.toUInt64).toInt64).toInt32).toInt8.toInt32)) := H108.at hi108 f3
  refine own_st (X0.baloadBytes hx (j := (11 : Int32)) (v := (.int ((((v64.toUInt64 >>> ((32 : Int32) &&& 0x3f).toInt64.toUInt64).toInt64).toInt32).toInt8.toInt32))) (by rw [e0]; exact Ar108.1) (State.isArrayOf_alike hZ.alike Ar108.2.1) Ar108.2.2 hi108 ha108 (g := (mkF m 44 #[.val (.ref b), .val (.int (8 : Int32)), .val (.long v64), .second] [(.int (11 : Int32)), (.ref b)])) rfl rfl (hb hby own_d_method_4_44)) ?_
  show own_Go p e below _ (s₁.setTop (mkF m 45 #[.val (.ref b), .val (.int (8 : Int32)), .val (.long v64), .second] [(.int ((((v64.toUInt64 >>> ((32 : Int32) &&& 0x3f).toInt64.toUInt64).toInt64).toInt32).toInt8.toInt32))]))
  refine own_st (fun u_ k_ => XS.lloadN X0.here hx rfl (hb hby own_d_method_4_45) rfl k_) ?_
  show own_Go p e below _ (s₁.setTop (mkF m 46 #[.val (.ref b), .val (.int (8 : Int32)), .val (.long v64), .second] [(.long v64), (.int ((((v64.toUInt64 >>> ((32 : Int32) &&& 0x3f).toInt64.toUInt64).toInt64).toInt32).toInt8.toInt32))]))
  refine own_st (fun u_ k_ => XS.bipush X0.here hx rfl (hb hby own_d_method_4_46) k_) ?_
  show own_Go p e below _ (s₁.setTop (mkF m 48 #[.val (.ref b), .val (.int (8 : Int32)), .val (.long v64), .second] [(.int (32 : Int32)), (.long v64), (.int ((((v64.toUInt64 >>> ((32 : Int32) &&& 0x3f).toInt64.toUInt64).toInt64).toInt32).toInt8.toInt32))]))
  refine own_st (fun u_ k_ => XS.lushr X0.here hx rfl (hb hby own_d_method_4_48) rfl k_) ?_
  show own_Go p e below _ (s₁.setTop (mkF m 49 #[.val (.ref b), .val (.int (8 : Int32)), .val (.long v64), .second] [(.long ((v64.toUInt64 >>> ((32 : Int32) &&& 0x3f).toInt64.toUInt64).toInt64)), (.int ((((v64.toUInt64 >>> ((32 : Int32) &&& 0x3f).toInt64.toUInt64).toInt64).toInt32).toInt8.toInt32))]))
  refine own_st (fun u_ k_ => XS.l2i X0.here hx rfl (hb hby own_d_method_4_49) rfl k_) ?_
  show own_Go p e below _ (s₁.setTop (mkF m 50 #[.val (.ref b), .val (.int (8 : Int32)), .val (.long v64), .second] [(.int (((v64.toUInt64 >>> ((32 : Int32) &&& 0x3f).toInt64.toUInt64).toInt64).toInt32)), (.int ((((v64.toUInt64 >>> ((32 : Int32) &&& 0x3f).toInt64.toUInt64).toInt64).toInt32).toInt8.toInt32))]))
  refine own_st (fun u_ k_ => XS.i2b X0.here hx rfl (hb hby own_d_method_4_50) rfl k_) ?_
  show own_Go p e below _ (s₁.setTop (mkF m 51 #[.val (.ref b), .val (.int (8 : Int32)), .val (.long v64), .second] [(.int ((((v64.toUInt64 >>> ((32 : Int32) &&& 0x3f).toInt64.toUInt64).toInt64).toInt32).toInt8.toInt32)), (.int ((((v64.toUInt64 >>> ((32 : Int32) &&& 0x3f).toInt64.toUInt64).toInt64).toInt32).toInt8.toInt32))]))
  refine own_st (fun u_ k_ => XS.icmpNo X0.here hx rfl (hb hby own_d_method_4_51) rfl (XT.ii_ne_f rfl) k_) ?_
  show own_Go p e below _ (s₁.setTop (mkF m 54 #[.val (.ref b), .val (.int (8 : Int32)), .val (.long v64), .second] []))
  refine own_st (fun u_ k_ => XS.aloadN X0.here hx rfl (hb hby own_d_method_4_54) rfl rfl k_) ?_
  show own_Go p e below _ (s₁.setTop (mkF m 55 #[.val (.ref b), .val (.int (8 : Int32)), .val (.long v64), .second] [(.ref b)]))
  refine own_st (fun u_ k_ => XS.iloadN X0.here hx rfl (hb hby own_d_method_4_55) rfl k_) ?_
  show own_Go p e below _ (s₁.setTop (mkF m 56 #[.val (.ref b), .val (.int (8 : Int32)), .val (.long v64), .second] [(.int (8 : Int32)), (.ref b)]))
  refine own_st (fun u_ k_ => XS.iconst X0.here hx rfl (hb hby own_d_method_4_56) k_) ?_
  show own_Go p e below _ (s₁.setTop (mkF m 57 #[.val (.ref b), .val (.int (8 : Int32)), .val (.long v64), .second] [(.int (4 : Int32)), (.int (8 : Int32)), (.ref b)]))
  refine own_st (fun u_ k_ => XS.iadd X0.here hx rfl (hb hby own_d_method_4_57) rfl k_) ?_
  show own_Go p e below _ (s₁.setTop (mkF m 58 #[.val (.ref b), .val (.int (8 : Int32)), .val (.long v64), .second] [(.int (12 : Int32)), (.ref b)]))
  obtain ⟨cl109, Ar109, q109, S109, N109, H109, G109⟩ := id V
  have hi109 : ¬ ((12 : Int32) < 0 ∨ cl109.slots.size ≤ ((12 : Int32)).toNatClampNeg) := inb_of S109 ⟨by decide, by decide⟩
  have ha109 : cl109.slots[((12 : Int32)).toNatClampNeg]? = some (.int ((((v64.toUInt64 >>> ((24 : Int32) &&& 0x3f).toInt64.toUInt64).toInt64).toInt32).toInt8.toInt32)) := H109.at hi109 f4
  refine own_st (X0.baloadBytes hx (j := (12 : Int32)) (v := (.int ((((v64.toUInt64 >>> ((24 : Int32) &&& 0x3f).toInt64.toUInt64).toInt64).toInt32).toInt8.toInt32))) (by rw [e0]; exact Ar109.1) (State.isArrayOf_alike hZ.alike Ar109.2.1) Ar109.2.2 hi109 ha109 (g := (mkF m 58 #[.val (.ref b), .val (.int (8 : Int32)), .val (.long v64), .second] [(.int (12 : Int32)), (.ref b)])) rfl rfl (hb hby own_d_method_4_58)) ?_
  show own_Go p e below _ (s₁.setTop (mkF m 59 #[.val (.ref b), .val (.int (8 : Int32)), .val (.long v64), .second] [(.int ((((v64.toUInt64 >>> ((24 : Int32) &&& 0x3f).toInt64.toUInt64).toInt64).toInt32).toInt8.toInt32))]))
  refine own_st (fun u_ k_ => XS.lloadN X0.here hx rfl (hb hby own_d_method_4_59) rfl k_) ?_
  show own_Go p e below _ (s₁.setTop (mkF m 60 #[.val (.ref b), .val (.int (8 : Int32)), .val (.long v64), .second] [(.long v64), (.int ((((v64.toUInt64 >>> ((24 : Int32) &&& 0x3f).toInt64.toUInt64).toInt64).toInt32).toInt8.toInt32))]))
  refine own_st (fun u_ k_ => XS.bipush X0.here hx rfl (hb hby own_d_method_4_60) k_) ?_
  show own_Go p e below _ (s₁.setTop (mkF m 62 #[.val (.ref b), .val (.int (8 : Int32)), .val (.long v64), .second] [(.int (24 : Int32)), (.long v64), (.int ((((v64.toUInt64 >>> ((24 : Int32) &&& 0x3f).toInt64.toUInt64).toInt64).toInt32).toInt8.toInt32))]))
  refine own_st (fun u_ k_ => XS.lushr X0.here hx rfl (hb hby own_d_method_4_62) rfl k_) ?_
  show own_Go p e below _ (s₁.setTop (mkF m 63 #[.val (.ref b), .val (.int (8 : Int32)), .val (.long v64), .second] [(.long ((v64.toUInt64 >>> ((24 : Int32) &&& 0x3f).toInt64.toUInt64).toInt64)), (.int ((((v64.toUInt64 >>> ((24 : Int32) &&& 0x3f).toInt64.toUInt64).toInt64).toInt32).toInt8.toInt32))]))
  refine own_st (fun u_ k_ => XS.l2i X0.here hx rfl (hb hby own_d_method_4_63) rfl k_) ?_
  show own_Go p e below _ (s₁.setTop (mkF m 64 #[.val (.ref b), .val (.int (8 : Int32)), .val (.long v64), .second] [(.int (((v64.toUInt64 >>> ((24 : Int32) &&& 0x3f).toInt64.toUInt64).toInt64).toInt32)), (.int ((((v64.toUInt64 >>> ((24 : Int32) &&& 0x3f).toInt64.toUInt64).toInt64).toInt32).toInt8.toInt32))]))
  refine own_st (fun u_ k_ => XS.i2b X0.here hx rfl (hb hby own_d_method_4_64) rfl k_) ?_
  show own_Go p e below _ (s₁.setTop (mkF m 65 #[.val (.ref b), .val (.int (8 : Int32)), .val (.long v64), .second] [(.int ((((v64.toUInt64 >>> ((24 : Int32) &&& 0x3f).toInt64.toUInt64).toInt64).toInt32).toInt8.toInt32)), (.int ((((v64.toUInt64 >>> ((24 : Int32) &&& 0x3f).toInt64.toUInt64).toInt64).toInt32).toInt8.toInt32))]))
  refine own_st (fun u_ k_ => XS.icmpNo X0.here hx rfl (hb hby own_d_method_4_65) rfl (XT.ii_ne_f rfl) k_) ?_
  show own_Go p e below _ (s₁.setTop (mkF m 68 #[.val (.ref b), .val (.int (8 : Int32)), .val (.long v64), .second] []))
  refine own_st (fun u_ k_ => XS.aloadN X0.here hx rfl (hb hby own_d_method_4_68) rfl rfl k_) ?_
  show own_Go p e below _ (s₁.setTop (mkF m 69 #[.val (.ref b), .val (.int (8 : Int32)), .val (.long v64), .second] [(.ref b)]))
  refine own_st (fun u_ k_ => XS.iloadN X0.here hx rfl (hb hby own_d_method_4_69) rfl k_) ?_
  show own_Go p e below _ (s₁.setTop (mkF m 70 #[.val (.ref b), .val (.int (8 : Int32)), .val (.long v64), .second] [(.int (8 : Int32)), (.ref b)]))
  refine own_st (fun u_ k_ => XS.iconst X0.here hx rfl (hb hby own_d_method_4_70) k_) ?_
  show own_Go p e below _ (s₁.setTop (mkF m 71 #[.val (.ref b), .val (.int (8 : Int32)), .val (.long v64), .second] [(.int (5 : Int32)), (.int (8 : Int32)), (.ref b)]))
  refine own_st (fun u_ k_ => XS.iadd X0.here hx rfl (hb hby own_d_method_4_71) rfl k_) ?_
  show own_Go p e below _ (s₁.setTop (mkF m 72 #[.val (.ref b), .val (.int (8 : Int32)), .val (.long v64), .second] [(.int (13 : Int32)), (.ref b)]))
  obtain ⟨cl110, Ar110, q110, S110, N110, H110, G110⟩ := id V
  have hi110 : ¬ ((13 : Int32) < 0 ∨ cl110.slots.size ≤ ((13 : Int32)).toNatClampNeg) := inb_of S110 ⟨by decide, by decide⟩
  have ha110 : cl110.slots[((13 : Int32)).toNatClampNeg]? = some (.int ((((v64.toUInt64 >>> ((16 : Int32) &&& 0x3f).toInt64.toUInt64).toInt64).toInt32).toInt8.toInt32)) := H110.at hi110 f5
  refine own_st (X0.baloadBytes hx (j := (13 : Int32)) (v := (.int ((((v64.toUInt64 >>> ((16 : Int32) &&& 0x3f).toInt64.toUInt64).toInt64).toInt32).toInt8.toInt32))) (by rw [e0]; exact Ar110.1) (State.isArrayOf_alike hZ.alike Ar110.2.1) Ar110.2.2 hi110 ha110 (g := (mkF m 72 #[.val (.ref b), .val (.int (8 : Int32)), .val (.long v64), .second] [(.int (13 : Int32)), (.ref b)])) rfl rfl (hb hby own_d_method_4_72)) ?_
  show own_Go p e below _ (s₁.setTop (mkF m 73 #[.val (.ref b), .val (.int (8 : Int32)), .val (.long v64), .second] [(.int ((((v64.toUInt64 >>> ((16 : Int32) &&& 0x3f).toInt64.toUInt64).toInt64).toInt32).toInt8.toInt32))]))
  refine own_st (fun u_ k_ => XS.lloadN X0.here hx rfl (hb hby own_d_method_4_73) rfl k_) ?_
  show own_Go p e below _ (s₁.setTop (mkF m 74 #[.val (.ref b), .val (.int (8 : Int32)), .val (.long v64), .second] [(.long v64), (.int ((((v64.toUInt64 >>> ((16 : Int32) &&& 0x3f).toInt64.toUInt64).toInt64).toInt32).toInt8.toInt32))]))
  refine own_st (fun u_ k_ => XS.bipush X0.here hx rfl (hb hby own_d_method_4_74) k_) ?_
  show own_Go p e below _ (s₁.setTop (mkF m 76 #[.val (.ref b), .val (.int (8 : Int32)), .val (.long v64), .second] [(.int (16 : Int32)), (.long v64), (.int ((((v64.toUInt64 >>> ((16 : Int32) &&& 0x3f).toInt64.toUInt64).toInt64).toInt32).toInt8.toInt32))]))
  refine own_st (fun u_ k_ => XS.lushr X0.here hx rfl (hb hby own_d_method_4_76) rfl k_) ?_
  show own_Go p e below _ (s₁.setTop (mkF m 77 #[.val (.ref b), .val (.int (8 : Int32)), .val (.long v64), .second] [(.long ((v64.toUInt64 >>> ((16 : Int32) &&& 0x3f).toInt64.toUInt64).toInt64)), (.int ((((v64.toUInt64 >>> ((16 : Int32) &&& 0x3f).toInt64.toUInt64).toInt64).toInt32).toInt8.toInt32))]))
  refine own_st (fun u_ k_ => XS.l2i X0.here hx rfl (hb hby own_d_method_4_77) rfl k_) ?_
  show own_Go p e below _ (s₁.setTop (mkF m 78 #[.val (.ref b), .val (.int (8 : Int32)), .val (.long v64), .second] [(.int (((v64.toUInt64 >>> ((16 : Int32) &&& 0x3f).toInt64.toUInt64).toInt64).toInt32)), (.int ((((v64.toUInt64 >>> ((16 : Int32) &&& 0x3f).toInt64.toUInt64).toInt64).toInt32).toInt8.toInt32))]))
  refine own_st (fun u_ k_ => XS.i2b X0.here hx rfl (hb hby own_d_method_4_78) rfl k_) ?_
  show own_Go p e below _ (s₁.setTop (mkF m 79 #[.val (.ref b), .val (.int (8 : Int32)), .val (.long v64), .second] [(.int ((((v64.toUInt64 >>> ((16 : Int32) &&& 0x3f).toInt64.toUInt64).toInt64).toInt32).toInt8.toInt32)), (.int ((((v64.toUInt64 >>> ((16 : Int32) &&& 0x3f).toInt64.toUInt64).toInt64).toInt32).toInt8.toInt32))]))
  refine own_st (fun u_ k_ => XS.icmpNo X0.here hx rfl (hb hby own_d_method_4_79) rfl (XT.ii_ne_f rfl) k_) ?_
  show own_Go p e below _ (s₁.setTop (mkF m 82 #[.val (.ref b), .val (.int (8 : Int32)), .val (.long v64), .second] []))
  refine own_st (fun u_ k_ => XS.aloadN X0.here hx rfl (hb hby own_d_method_4_82) rfl rfl k_) ?_
  show own_Go p e below _ (s₁.setTop (mkF m 83 #[.val (.ref b), .val (.int (8 : Int32)), .val (.long v64), .second] [(.ref b)]))
  refine own_st (fun u_ k_ => XS.iloadN X0.here hx rfl (hb hby own_d_method_4_83) rfl k_) ?_
  show own_Go p e below _ (s₁.setTop (mkF m 84 #[.val (.ref b), .val (.int (8 : Int32)), .val (.long v64), .second] [(.int (8 : Int32)), (.ref b)]))
  refine own_st (fun u_ k_ => XS.bipush X0.here hx rfl (hb hby own_d_method_4_84) k_) ?_
  show own_Go p e below _ (s₁.setTop (mkF m 86 #[.val (.ref b), .val (.int (8 : Int32)), .val (.long v64), .second] [(.int (6 : Int32)), (.int (8 : Int32)), (.ref b)]))
  refine own_st (fun u_ k_ => XS.iadd X0.here hx rfl (hb hby own_d_method_4_86) rfl k_) ?_
  show own_Go p e below _ (s₁.setTop (mkF m 87 #[.val (.ref b), .val (.int (8 : Int32)), .val (.long v64), .second] [(.int (14 : Int32)), (.ref b)]))
  obtain ⟨cl111, Ar111, q111, S111, N111, H111, G111⟩ := id V
  have hi111 : ¬ ((14 : Int32) < 0 ∨ cl111.slots.size ≤ ((14 : Int32)).toNatClampNeg) := inb_of S111 ⟨by decide, by decide⟩
  have ha111 : cl111.slots[((14 : Int32)).toNatClampNeg]? = some (.int ((((v64.toUInt64 >>> ((8 : Int32) &&& 0x3f).toInt64.toUInt64).toInt64).toInt32).toInt8.toInt32)) := H111.at hi111 f6
  refine own_st (X0.baloadBytes hx (j := (14 : Int32)) (v := (.int ((((v64.toUInt64 >>> ((8 : Int32) &&& 0x3f).toInt64.toUInt64).toInt64).toInt32).toInt8.toInt32))) (by rw [e0]; exact Ar111.1) (State.isArrayOf_alike hZ.alike Ar111.2.1) Ar111.2.2 hi111 ha111 (g := (mkF m 87 #[.val (.ref b), .val (.int (8 : Int32)), .val (.long v64), .second] [(.int (14 : Int32)), (.ref b)])) rfl rfl (hb hby own_d_method_4_87)) ?_
  show own_Go p e below _ (s₁.setTop (mkF m 88 #[.val (.ref b), .val (.int (8 : Int32)), .val (.long v64), .second] [(.int ((((v64.toUInt64 >>> ((8 : Int32) &&& 0x3f).toInt64.toUInt64).toInt64).toInt32).toInt8.toInt32))]))
  refine own_st (fun u_ k_ => XS.lloadN X0.here hx rfl (hb hby own_d_method_4_88) rfl k_) ?_
  show own_Go p e below _ (s₁.setTop (mkF m 89 #[.val (.ref b), .val (.int (8 : Int32)), .val (.long v64), .second] [(.long v64), (.int ((((v64.toUInt64 >>> ((8 : Int32) &&& 0x3f).toInt64.toUInt64).toInt64).toInt32).toInt8.toInt32))]))
  refine own_st (fun u_ k_ => XS.bipush X0.here hx rfl (hb hby own_d_method_4_89) k_) ?_
  show own_Go p e below _ (s₁.setTop (mkF m 91 #[.val (.ref b), .val (.int (8 : Int32)), .val (.long v64), .second] [(.int (8 : Int32)), (.long v64), (.int ((((v64.toUInt64 >>> ((8 : Int32) &&& 0x3f).toInt64.toUInt64).toInt64).toInt32).toInt8.toInt32))]))
  refine own_st (fun u_ k_ => XS.lushr X0.here hx rfl (hb hby own_d_method_4_91) rfl k_) ?_
  show own_Go p e below _ (s₁.setTop (mkF m 92 #[.val (.ref b), .val (.int (8 : Int32)), .val (.long v64), .second] [(.long ((v64.toUInt64 >>> ((8 : Int32) &&& 0x3f).toInt64.toUInt64).toInt64)), (.int ((((v64.toUInt64 >>> ((8 : Int32) &&& 0x3f).toInt64.toUInt64).toInt64).toInt32).toInt8.toInt32))]))
  refine own_st (fun u_ k_ => XS.l2i X0.here hx rfl (hb hby own_d_method_4_92) rfl k_) ?_
  show own_Go p e below _ (s₁.setTop (mkF m 93 #[.val (.ref b), .val (.int (8 : Int32)), .val (.long v64), .second] [(.int (((v64.toUInt64 >>> ((8 : Int32) &&& 0x3f).toInt64.toUInt64).toInt64).toInt32)), (.int ((((v64.toUInt64 >>> ((8 : Int32) &&& 0x3f).toInt64.toUInt64).toInt64).toInt32).toInt8.toInt32))]))
  refine own_st (fun u_ k_ => XS.i2b X0.here hx rfl (hb hby own_d_method_4_93) rfl k_) ?_
  show own_Go p e below _ (s₁.setTop (mkF m 94 #[.val (.ref b), .val (.int (8 : Int32)), .val (.long v64), .second] [(.int ((((v64.toUInt64 >>> ((8 : Int32) &&& 0x3f).toInt64.toUInt64).toInt64).toInt32).toInt8.toInt32)), (.int ((((v64.toUInt64 >>> ((8 : Int32) &&& 0x3f).toInt64.toUInt64).toInt64).toInt32).toInt8.toInt32))]))
  refine own_st (fun u_ k_ => XS.icmpNo X0.here hx rfl (hb hby own_d_method_4_94) rfl (XT.ii_ne_f rfl) k_) ?_
  show own_Go p e below _ (s₁.setTop (mkF m 97 #[.val (.ref b), .val (.int (8 : Int32)), .val (.long v64), .second] []))
  refine own_st (fun u_ k_ => XS.aloadN X0.here hx rfl (hb hby own_d_method_4_97) rfl rfl k_) ?_
  show own_Go p e below _ (s₁.setTop (mkF m 98 #[.val (.ref b), .val (.int (8 : Int32)), .val (.long v64), .second] [(.ref b)]))
  refine own_st (fun u_ k_ => XS.iloadN X0.here hx rfl (hb hby own_d_method_4_98) rfl k_) ?_
  show own_Go p e below _ (s₁.setTop (mkF m 99 #[.val (.ref b), .val (.int (8 : Int32)), .val (.long v64), .second] [(.int (8 : Int32)), (.ref b)]))
  refine own_st (fun u_ k_ => XS.bipush X0.here hx rfl (hb hby own_d_method_4_99) k_) ?_
  show own_Go p e below _ (s₁.setTop (mkF m 101 #[.val (.ref b), .val (.int (8 : Int32)), .val (.long v64), .second] [(.int (7 : Int32)), (.int (8 : Int32)), (.ref b)]))
  refine own_st (fun u_ k_ => XS.iadd X0.here hx rfl (hb hby own_d_method_4_101) rfl k_) ?_
  show own_Go p e below _ (s₁.setTop (mkF m 102 #[.val (.ref b), .val (.int (8 : Int32)), .val (.long v64), .second] [(.int (15 : Int32)), (.ref b)]))
  obtain ⟨cl112, Ar112, q112, S112, N112, H112, G112⟩ := id V
  have hi112 : ¬ ((15 : Int32) < 0 ∨ cl112.slots.size ≤ ((15 : Int32)).toNatClampNeg) := inb_of S112 ⟨by decide, by decide⟩
  have ha112 : cl112.slots[((15 : Int32)).toNatClampNeg]? = some (.int ((v64.toInt32).toInt8.toInt32)) := H112.at hi112 f7
  refine own_st (X0.baloadBytes hx (j := (15 : Int32)) (v := (.int ((v64.toInt32).toInt8.toInt32))) (by rw [e0]; exact Ar112.1) (State.isArrayOf_alike hZ.alike Ar112.2.1) Ar112.2.2 hi112 ha112 (g := (mkF m 102 #[.val (.ref b), .val (.int (8 : Int32)), .val (.long v64), .second] [(.int (15 : Int32)), (.ref b)])) rfl rfl (hb hby own_d_method_4_102)) ?_
  show own_Go p e below _ (s₁.setTop (mkF m 103 #[.val (.ref b), .val (.int (8 : Int32)), .val (.long v64), .second] [(.int ((v64.toInt32).toInt8.toInt32))]))
  refine own_st (fun u_ k_ => XS.lloadN X0.here hx rfl (hb hby own_d_method_4_103) rfl k_) ?_
  show own_Go p e below _ (s₁.setTop (mkF m 104 #[.val (.ref b), .val (.int (8 : Int32)), .val (.long v64), .second] [(.long v64), (.int ((v64.toInt32).toInt8.toInt32))]))
  refine own_st (fun u_ k_ => XS.l2i X0.here hx rfl (hb hby own_d_method_4_104) rfl k_) ?_
  show own_Go p e below _ (s₁.setTop (mkF m 105 #[.val (.ref b), .val (.int (8 : Int32)), .val (.long v64), .second] [(.int (v64.toInt32)), (.int ((v64.toInt32).toInt8.toInt32))]))
  refine own_st (fun u_ k_ => XS.i2b X0.here hx rfl (hb hby own_d_method_4_105) rfl k_) ?_
  show own_Go p e below _ (s₁.setTop (mkF m 106 #[.val (.ref b), .val (.int (8 : Int32)), .val (.long v64), .second] [(.int ((v64.toInt32).toInt8.toInt32)), (.int ((v64.toInt32).toInt8.toInt32))]))
  refine own_st (fun u_ k_ => XS.icmpNo X0.here hx rfl (hb hby own_d_method_4_106) rfl (XT.ii_ne_f rfl) k_) ?_
  show own_Go p e below _ (s₁.setTop (mkF m 109 #[.val (.ref b), .val (.int (8 : Int32)), .val (.long v64), .second] []))
  refine own_st (fun u_ k_ => XS.iconst X0.here hx rfl (hb hby own_d_method_4_109) k_) ?_
  show own_Go p e below _ (s₁.setTop (mkF m 110 #[.val (.ref b), .val (.int (8 : Int32)), .val (.long v64), .second] [(.int (1 : Int32))]))
  refine own_st (fun u_ k_ => XS.goto X0.here hx rfl (pc0 := 110) (pc' := 114) rfl (hb hby own_d_method_4_110) (by decide) (by decide) k_) ?_
  show own_Go p e below _ (s₁.setTop (mkF m 114 #[.val (.ref b), .val (.int (8 : Int32)), .val (.long v64), .second] [(.int (1 : Int32))]))
  exact own_retX X0 hx hlk hret rfl (Or.inl ⟨rfl, by simp, _, rfl⟩) (hb hby own_d_method_4_114) (by decide) (by decide) (show QrmE8 Z we b kb vs v64 h0 n0 (some (.int (1 : Int32))) s₁.heap _ from (by rw [e0]; exact ⟨rfl, N0, rfl⟩))
theorem own_ef_rmE16 (m : MethodId) (b : Addr) (v64 : Int64)  : entryFrame m #[(.ref b), (.int (16 : Int32)), (.long v64)] 4 = mkF m 0 #[.val (.ref b), .val (.int (16 : Int32)), .val (.long v64), .second] [] := by first | (simp [entryFrame, mkF, argsToLocals, Value.category, maxLocals]; done) | rfl
def QrmE16 (Z : State) (we : Addr) (b : Addr) (kb : ClassId) (vs : List Value) (v64 : Int64) (h0 : Heap) (n0 : Nat) (v : Option Value) (h : Heap) (L : List Loc) : Prop := v = some (.int (1 : Int32)) ∧ Fr n0 L ∧ h = h0
set_option maxRecDepth 65536 in
set_option maxHeartbeats 40000000 in
theorem rmE16 (l : Launch) (Z : State) (a0 : Array Value) (hw : own_H a0 Z) (ws : List Jvm.Cond) (we : Addr) (hS : own_S Z we) (b : Addr) (kb : ClassId) (vs : List Value) (v64 : Int64) (h0 : Heap) (n0 : Nat) (O0 : Old Z n0 h0) (V : Arv Z h0 b kb .byte (32 : Int32) vs (.int (0 : Int32))) (f0 : vs.getD 16 (.int (0 : Int32)) = .int ((((v64.toUInt64 >>> ((56 : Int32) &&& 0x3f).toInt64.toUInt64).toInt64).toInt32).toInt8.toInt32)) (f1 : vs.getD 17 (.int (0 : Int32)) = .int ((((v64.toUInt64 >>> ((48 : Int32) &&& 0x3f).toInt64.toUInt64).toInt64).toInt32).toInt8.toInt32)) (f2 : vs.getD 18 (.int (0 : Int32)) = .int ((((v64.toUInt64 >>> ((40 : Int32) &&& 0x3f).toInt64.toUInt64).toInt64).toInt32).toInt8.toInt32)) (f3 : vs.getD 19 (.int (0 : Int32)) = .int ((((v64.toUInt64 >>> ((32 : Int32) &&& 0x3f).toInt64.toUInt64).toInt64).toInt32).toInt8.toInt32)) (f4 : vs.getD 20 (.int (0 : Int32)) = .int ((((v64.toUInt64 >>> ((24 : Int32) &&& 0x3f).toInt64.toUInt64).toInt64).toInt32).toInt8.toInt32)) (f5 : vs.getD 21 (.int (0 : Int32)) = .int ((((v64.toUInt64 >>> ((16 : Int32) &&& 0x3f).toInt64.toUInt64).toInt64).toInt32).toInt8.toInt32)) (f6 : vs.getD 22 (.int (0 : Int32)) = .int ((((v64.toUInt64 >>> ((8 : Int32) &&& 0x3f).toInt64.toUInt64).toInt64).toInt32).toInt8.toInt32)) (f7 : vs.getD 23 (.int (0 : Int32)) = .int ((v64.toInt32).toInt8.toInt32)) :
    own_Met l own_y_166 method_4_code 4 (some .boolean) ws ({ frames := 0, cells := 0, slots := 0, locals := 0 } : Room) Z h0 #[(.ref b), (.int (16 : Int32)), (.long v64)] (QrmE16 Z we b kb vs v64 h0 n0) := by
  refine own_body (plainFor_of_name own_pn_78) ?_
  intro p e s m below meth c s₁ hx hby hml hown hnm hret hlk hZ e0 X0
  have N0 := Fr.nil n0
  refine own_st (fun u_ k_ => castTop (own_ef_rmE16 m b v64) k_) ?_
  show own_Go p e below _ (s₁.setTop (mkF m 0 #[.val (.ref b), .val (.int (16 : Int32)), .val (.long v64), .second] []))
  refine own_st (fun u_ k_ => XS.aloadN X0.here hx rfl (hb hby own_d_method_4_0) rfl rfl k_) ?_
  show own_Go p e below _ (s₁.setTop (mkF m 1 #[.val (.ref b), .val (.int (16 : Int32)), .val (.long v64), .second] [(.ref b)]))
  refine own_st (fun u_ k_ => XS.iloadN X0.here hx rfl (hb hby own_d_method_4_1) rfl k_) ?_
  show own_Go p e below _ (s₁.setTop (mkF m 2 #[.val (.ref b), .val (.int (16 : Int32)), .val (.long v64), .second] [(.int (16 : Int32)), (.ref b)]))
  obtain ⟨cl113, Ar113, q113, S113, N113, H113, G113⟩ := id V
  have hi113 : ¬ ((16 : Int32) < 0 ∨ cl113.slots.size ≤ ((16 : Int32)).toNatClampNeg) := inb_of S113 ⟨by decide, by decide⟩
  have ha113 : cl113.slots[((16 : Int32)).toNatClampNeg]? = some (.int ((((v64.toUInt64 >>> ((56 : Int32) &&& 0x3f).toInt64.toUInt64).toInt64).toInt32).toInt8.toInt32)) := H113.at hi113 f0
  refine own_st (X0.baloadBytes hx (j := (16 : Int32)) (v := (.int ((((v64.toUInt64 >>> ((56 : Int32) &&& 0x3f).toInt64.toUInt64).toInt64).toInt32).toInt8.toInt32))) (by rw [e0]; exact Ar113.1) (State.isArrayOf_alike hZ.alike Ar113.2.1) Ar113.2.2 hi113 ha113 (g := (mkF m 2 #[.val (.ref b), .val (.int (16 : Int32)), .val (.long v64), .second] [(.int (16 : Int32)), (.ref b)])) rfl rfl (hb hby own_d_method_4_2)) ?_
  show own_Go p e below _ (s₁.setTop (mkF m 3 #[.val (.ref b), .val (.int (16 : Int32)), .val (.long v64), .second] [(.int ((((v64.toUInt64 >>> ((56 : Int32) &&& 0x3f).toInt64.toUInt64).toInt64).toInt32).toInt8.toInt32))]))
  refine own_st (fun u_ k_ => XS.lloadN X0.here hx rfl (hb hby own_d_method_4_3) rfl k_) ?_
  show own_Go p e below _ (s₁.setTop (mkF m 4 #[.val (.ref b), .val (.int (16 : Int32)), .val (.long v64), .second] [(.long v64), (.int ((((v64.toUInt64 >>> ((56 : Int32) &&& 0x3f).toInt64.toUInt64).toInt64).toInt32).toInt8.toInt32))]))
  refine own_st (fun u_ k_ => XS.bipush X0.here hx rfl (hb hby own_d_method_4_4) k_) ?_
  show own_Go p e below _ (s₁.setTop (mkF m 6 #[.val (.ref b), .val (.int (16 : Int32)), .val (.long v64), .second] [(.int (56 : Int32)), (.long v64), (.int ((((v64.toUInt64 >>> ((56 : Int32) &&& 0x3f).toInt64.toUInt64).toInt64).toInt32).toInt8.toInt32))]))
  refine own_st (fun u_ k_ => XS.lushr X0.here hx rfl (hb hby own_d_method_4_6) rfl k_) ?_
  show own_Go p e below _ (s₁.setTop (mkF m 7 #[.val (.ref b), .val (.int (16 : Int32)), .val (.long v64), .second] [(.long ((v64.toUInt64 >>> ((56 : Int32) &&& 0x3f).toInt64.toUInt64).toInt64)), (.int ((((v64.toUInt64 >>> ((56 : Int32) &&& 0x3f).toInt64.toUInt64).toInt64).toInt32).toInt8.toInt32))]))
  refine own_st (fun u_ k_ => XS.l2i X0.here hx rfl (hb hby own_d_method_4_7) rfl k_) ?_
  show own_Go p e below _ (s₁.setTop (mkF m 8 #[.val (.ref b), .val (.int (16 : Int32)), .val (.long v64), .second] [(.int (((v64.toUInt64 >>> ((56 : Int32) &&& 0x3f).toInt64.toUInt64).toInt64).toInt32)), (.int ((((v64.toUInt64 >>> ((56 : Int32) &&& 0x3f).toInt64.toUInt64).toInt64).toInt32).toInt8.toInt32))]))
  refine own_st (fun u_ k_ => XS.i2b X0.here hx rfl (hb hby own_d_method_4_8) rfl k_) ?_
  show own_Go p e below _ (s₁.setTop (mkF m 9 #[.val (.ref b), .val (.int (16 : Int32)), .val (.long v64), .second] [(.int ((((v64.toUInt64 >>> ((56 : Int32) &&& 0x3f).toInt64.toUInt64).toInt64).toInt32).toInt8.toInt32)), (.int ((((v64.toUInt64 >>> ((56 : Int32) &&& 0x3f).toInt64.toUInt64).toInt64).toInt32).toInt8.toInt32))]))
  refine own_st (fun u_ k_ => XS.icmpNo X0.here hx rfl (hb hby own_d_method_4_9) rfl (XT.ii_ne_f rfl) k_) ?_
  show own_Go p e below _ (s₁.setTop (mkF m 12 #[.val (.ref b), .val (.int (16 : Int32)), .val (.long v64), .second] []))
  refine own_st (fun u_ k_ => XS.aloadN X0.here hx rfl (hb hby own_d_method_4_12) rfl rfl k_) ?_
  show own_Go p e below _ (s₁.setTop (mkF m 13 #[.val (.ref b), .val (.int (16 : Int32)), .val (.long v64), .second] [(.ref b)]))
  refine own_st (fun u_ k_ => XS.iloadN X0.here hx rfl (hb hby own_d_method_4_13) rfl k_) ?_
  show own_Go p e below _ (s₁.setTop (mkF m 14 #[.val (.ref b), .val (.int (16 : Int32)), .val (.long v64), .second] [(.int (16 : Int32)), (.ref b)]))
  refine own_st (fun u_ k_ => XS.iconst X0.here hx rfl (hb hby own_d_method_4_14) k_) ?_
  show own_Go p e below _ (s₁.setTop (mkF m 15 #[.val (.ref b), .val (.int (16 : Int32)), .val (.long v64), .second] [(.int (1 : Int32)), (.int (16 : Int32)), (.ref b)]))
  refine own_st (fun u_ k_ => XS.iadd X0.here hx rfl (hb hby own_d_method_4_15) rfl k_) ?_
  show own_Go p e below _ (s₁.setTop (mkF m 16 #[.val (.ref b), .val (.int (16 : Int32)), .val (.long v64), .second] [(.int (17 : Int32)), (.ref b)]))
  obtain ⟨cl114, Ar114, q114, S114, N114, H114, G114⟩ := id V
  have hi114 : ¬ ((17 : Int32) < 0 ∨ cl114.slots.size ≤ ((17 : Int32)).toNatClampNeg) := inb_of S114 ⟨by decide, by decide⟩
  have ha114 : cl114.slots[((17 : Int32)).toNatClampNeg]? = some (.int ((((v64.toUInt64 >>> ((48 : Int32) &&& 0x3f).toInt64.toUInt64).toInt64).toInt32).toInt8.toInt32)) := H114.at hi114 f1
  refine own_st (X0.baloadBytes hx (j := (17 : Int32)) (v := (.int ((((v64.toUInt64 >>> ((48 : Int32) &&& 0x3f).toInt64.toUInt64).toInt64).toInt32).toInt8.toInt32))) (by rw [e0]; exact Ar114.1) (State.isArrayOf_alike hZ.alike Ar114.2.1) Ar114.2.2 hi114 ha114 (g := (mkF m 16 #[.val (.ref b), .val (.int (16 : Int32)), .val (.long v64), .second] [(.int (17 : Int32)), (.ref b)])) rfl rfl (hb hby own_d_method_4_16)) ?_
  show own_Go p e below _ (s₁.setTop (mkF m 17 #[.val (.ref b), .val (.int (16 : Int32)), .val (.long v64), .second] [(.int ((((v64.toUInt64 >>> ((48 : Int32) &&& 0x3f).toInt64.toUInt64).toInt64).toInt32).toInt8.toInt32))]))
  refine own_st (fun u_ k_ => XS.lloadN X0.here hx rfl (hb hby own_d_method_4_17) rfl k_) ?_
  show own_Go p e below _ (s₁.setTop (mkF m 18 #[.val (.ref b), .val (.int (16 : Int32)), .val (.long v64), .second] [(.long v64), (.int ((((v64.toUInt64 >>> ((48 : Int32) &&& 0x3f).toInt64.toUInt64).toInt64).toInt32).toInt8.toInt32))]))
  refine own_st (fun u_ k_ => XS.bipush X0.here hx rfl (hb hby own_d_method_4_18) k_) ?_
  show own_Go p e below _ (s₁.setTop (mkF m 20 #[.val (.ref b), .val (.int (16 : Int32)), .val (.long v64), .second] [(.int (48 : Int32)), (.long v64), (.int ((((v64.toUInt64 >>> ((48 : Int32) &&& 0x3f).toInt64.toUInt64).toInt64).toInt32).toInt8.toInt32))]))
  refine own_st (fun u_ k_ => XS.lushr X0.here hx rfl (hb hby own_d_method_4_20) rfl k_) ?_
  show own_Go p e below _ (s₁.setTop (mkF m 21 #[.val (.ref b), .val (.int (16 : Int32)), .val (.long v64), .second] [(.long ((v64.toUInt64 >>> ((48 : Int32) &&& 0x3f).toInt64.toUInt64).toInt64)), (.int ((((v64.toUInt64 >>> ((48 : Int32) &&& 0x3f).toInt64.toUInt64).toInt64).toInt32).toInt8.toInt32))]))
  refine own_st (fun u_ k_ => XS.l2i X0.here hx rfl (hb hby own_d_method_4_21) rfl k_) ?_
  show own_Go p e below _ (s₁.setTop (mkF m 22 #[.val (.ref b), .val (.int (16 : Int32)), .val (.long v64), .second] [(.int (((v64.toUInt64 >>> ((48 : Int32) &&& 0x3f).toInt64.toUInt64).toInt64).toInt32)), (.int ((((v64.toUInt64 >>> ((48 : Int32) &&& 0x3f).toInt64.toUInt64).toInt64).toInt32).toInt8.toInt32))]))
  refine own_st (fun u_ k_ => XS.i2b X0.here hx rfl (hb hby own_d_method_4_22) rfl k_) ?_
  show own_Go p e below _ (s₁.setTop (mkF m 23 #[.val (.ref b), .val (.int (16 : Int32)), .val (.long v64), .second] [(.int ((((v64.toUInt64 >>> ((48 : Int32) &&& 0x3f).toInt64.toUInt64).toInt64).toInt32).toInt8.toInt32)), (.int ((((v64.toUInt64 >>> ((48 : Int32) &&& 0x3f).toInt64.toUInt64).toInt64).toInt32).toInt8.toInt32))]))
  refine own_st (fun u_ k_ => XS.icmpNo X0.here hx rfl (hb hby own_d_method_4_23) rfl (XT.ii_ne_f rfl) k_) ?_
  show own_Go p e below _ (s₁.setTop (mkF m 26 #[.val (.ref b), .val (.int (16 : Int32)), .val (.long v64), .second] []))
  refine own_st (fun u_ k_ => XS.aloadN X0.here hx rfl (hb hby own_d_method_4_26) rfl rfl k_) ?_
  show own_Go p e below _ (s₁.setTop (mkF m 27 #[.val (.ref b), .val (.int (16 : Int32)), .val (.long v64), .second] [(.ref b)]))
  refine own_st (fun u_ k_ => XS.iloadN X0.here hx rfl (hb hby own_d_method_4_27) rfl k_) ?_
  show own_Go p e below _ (s₁.setTop (mkF m 28 #[.val (.ref b), .val (.int (16 : Int32)), .val (.long v64), .second] [(.int (16 : Int32)), (.ref b)]))
  refine own_st (fun u_ k_ => XS.iconst X0.here hx rfl (hb hby own_d_method_4_28) k_) ?_
  show own_Go p e below _ (s₁.setTop (mkF m 29 #[.val (.ref b), .val (.int (16 : Int32)), .val (.long v64), .second] [(.int (2 : Int32)), (.int (16 : Int32)), (.ref b)]))
  refine own_st (fun u_ k_ => XS.iadd X0.here hx rfl (hb hby own_d_method_4_29) rfl k_) ?_
  show own_Go p e below _ (s₁.setTop (mkF m 30 #[.val (.ref b), .val (.int (16 : Int32)), .val (.long v64), .second] [(.int (18 : Int32)), (.ref b)]))
  obtain ⟨cl115, Ar115, q115, S115, N115, H115, G115⟩ := id V
  have hi115 : ¬ ((18 : Int32) < 0 ∨ cl115.slots.size ≤ ((18 : Int32)).toNatClampNeg) := inb_of S115 ⟨by decide, by decide⟩
  have ha115 : cl115.slots[((18 : Int32)).toNatClampNeg]? = some (.int ((((v64.toUInt64 >>> ((40 : Int32) &&& 0x3f).toInt64.toUInt64).toInt64).toInt32).toInt8.toInt32)) := H115.at hi115 f2
  refine own_st (X0.baloadBytes hx (j := (18 : Int32)) (v := (.int ((((v64.toUInt64 >>> ((40 : Int32) &&& 0x3f).toInt64.toUInt64).toInt64).toInt32).toInt8.toInt32))) (by rw [e0]; exact Ar115.1) (State.isArrayOf_alike hZ.alike Ar115.2.1) Ar115.2.2 hi115 ha115 (g := (mkF m 30 #[.val (.ref b), .val (.int (16 : Int32)), .val (.long v64), .second] [(.int (18 : Int32)), (.ref b)])) rfl rfl (hb hby own_d_method_4_30)) ?_
  show own_Go p e below _ (s₁.setTop (mkF m 31 #[.val (.ref b), .val (.int (16 : Int32)), .val (.long v64), .second] [(.int ((((v64.toUInt64 >>> ((40 : Int32) &&& 0x3f).toInt64.toUInt64).toInt64).toInt32).toInt8.toInt32))]))
  refine own_st (fun u_ k_ => XS.lloadN X0.here hx rfl (hb hby own_d_method_4_31) rfl k_) ?_
  show own_Go p e below _ (s₁.setTop (mkF m 32 #[.val (.ref b), .val (.int (16 : Int32)), .val (.long v64), .second] [(.long v64), (.int ((((v64.toUInt64 >>> ((40 : Int32) &&& 0x3f).toInt64.toUInt64).toInt64).toInt32).toInt8.toInt32))]))
  refine own_st (fun u_ k_ => XS.bipush X0.here hx rfl (hb hby own_d_method_4_32) k_) ?_
  show own_Go p e below _ (s₁.setTop (mkF m 34 #[.val (.ref b), .val (.int (16 : Int32)), .val (.long v64), .second] [(.int (40 : Int32)), (.long v64), (.int ((((v64.toUInt64 >>> ((40 : Int32) &&& 0x3f).toInt64.toUInt64).toInt64).toInt32).toInt8.toInt32))]))
  refine own_st (fun u_ k_ => XS.lushr X0.here hx rfl (hb hby own_d_method_4_34) rfl k_) ?_
  show own_Go p e below _ (s₁.setTop (mkF m 35 #[.val (.ref b), .val (.int (16 : Int32)), .val (.long v64), .second] [(.long ((v64.toUInt64 >>> ((40 : Int32) &&& 0x3f).toInt64.toUInt64).toInt64)), (.int ((((v64.toUInt64 >>> ((40 : Int32) &&& 0x3f).toInt64.toUInt64).toInt64).toInt32).toInt8.toInt32))]))
  refine own_st (fun u_ k_ => XS.l2i X0.here hx rfl (hb hby own_d_method_4_35) rfl k_) ?_
  show own_Go p e below _ (s₁.setTop (mkF m 36 #[.val (.ref b), .val (.int (16 : Int32)), .val (.long v64), .second] [(.int (((v64.toUInt64 >>> ((40 : Int32) &&& 0x3f).toInt64.toUInt64).toInt64).toInt32)), (.int ((((v64.toUInt64 >>> ((40 : Int32) &&& 0x3f).toInt64.toUInt64).toInt64).toInt32).toInt8.toInt32))]))
  refine own_st (fun u_ k_ => XS.i2b X0.here hx rfl (hb hby own_d_method_4_36) rfl k_) ?_
  show own_Go p e below _ (s₁.setTop (mkF m 37 #[.val (.ref b), .val (.int (16 : Int32)), .val (.long v64), .second] [(.int ((((v64.toUInt64 >>> ((40 : Int32) &&& 0x3f).toInt64.toUInt64).toInt64).toInt32).toInt8.toInt32)), (.int ((((v64.toUInt64 >>> ((40 : Int32) &&& 0x3f).toInt64.toUInt64).toInt64).toInt32).toInt8.toInt32))]))
  refine own_st (fun u_ k_ => XS.icmpNo X0.here hx rfl (hb hby own_d_method_4_37) rfl (XT.ii_ne_f rfl) k_) ?_
  show own_Go p e below _ (s₁.setTop (mkF m 40 #[.val (.ref b), .val (.int (16 : Int32)), .val (.long v64), .second] []))
  refine own_st (fun u_ k_ => XS.aloadN X0.here hx rfl (hb hby own_d_method_4_40) rfl rfl k_) ?_
  show own_Go p e below _ (s₁.setTop (mkF m 41 #[.val (.ref b), .val (.int (16 : Int32)), .val (.long v64), .second] [(.ref b)]))
  refine own_st (fun u_ k_ => XS.iloadN X0.here hx rfl (hb hby own_d_method_4_41) rfl k_) ?_
  show own_Go p e below _ (s₁.setTop (mkF m 42 #[.val (.ref b), .val (.int (16 : Int32)), .val (.long v64), .second] [(.int (16 : Int32)), (.ref b)]))
  refine own_st (fun u_ k_ => XS.iconst X0.here hx rfl (hb hby own_d_method_4_42) k_) ?_
  show own_Go p e below _ (s₁.setTop (mkF m 43 #[.val (.ref b), .val (.int (16 : Int32)), .val (.long v64), .second] [(.int (3 : Int32)), (.int (16 : Int32)), (.ref b)]))
  refine own_st (fun u_ k_ => XS.iadd X0.here hx rfl (hb hby own_d_method_4_43) rfl k_) ?_
  show own_Go p e below _ (s₁.setTop (mkF m 44 #[.val (.ref b), .val (.int (16 : Int32)), .val (.long v64), .second] [(.int (19 : Int32)), (.ref b)]))
  obtain ⟨cl116, Ar116, q116, S116, N116, H116, G116⟩ := id V
  have hi116 : ¬ ((19 : Int32) < 0 ∨ cl116.slots.size ≤ ((19 : Int32)).toNatClampNeg) := inb_of S116 ⟨by decide, by decide⟩
  have ha116 : cl116.slots[((19 : Int32)).toNatClampNeg]? = some (.int ((((v64.toUInt64 >>> ((32 : Int32) &&& 0x3f).toInt64.toUInt64).toInt64).toInt32).toInt8.toInt32)) := H116.at hi116 f3
  refine own_st (X0.baloadBytes hx (j := (19 : Int32)) (v := (.int ((((v64.toUInt64 >>> ((32 : Int32) &&& 0x3f).toInt64.toUInt64).toInt64).toInt32).toInt8.toInt32))) (by rw [e0]; exact Ar116.1) (State.isArrayOf_alike hZ.alike Ar116.2.1) Ar116.2.2 hi116 ha116 (g := (mkF m 44 #[.val (.ref b), .val (.int (16 : Int32)), .val (.long v64), .second] [(.int (19 : Int32)), (.ref b)])) rfl rfl (hb hby own_d_method_4_44)) ?_
  show own_Go p e below _ (s₁.setTop (mkF m 45 #[.val (.ref b), .val (.int (16 : Int32)), .val (.long v64), .second] [(.int ((((v64.toUInt64 >>> ((32 : Int32) &&& 0x3f).toInt64.toUInt64).toInt64).toInt32).toInt8.toInt32))]))
  refine own_st (fun u_ k_ => XS.lloadN X0.here hx rfl (hb hby own_d_method_4_45) rfl k_) ?_
  show own_Go p e below _ (s₁.setTop (mkF m 46 #[.val (.ref b), .val (.int (16 : Int32)), .val (.long v64), .second] [(.long v64), (.int ((((v64.toUInt64 >>> ((32 : Int32) &&& 0x3f).toInt64.toUInt64).toInt64).toInt32).toInt8.toInt32))]))
  refine own_st (fun u_ k_ => XS.bipush X0.here hx rfl (hb hby own_d_method_4_46) k_) ?_
  show own_Go p e below _ (s₁.setTop (mkF m 48 #[.val (.ref b), .val (.int (16 : Int32)), .val (.long v64), .second] [(.int (32 : Int32)), (.long v64), (.int ((((v64.toUInt64 >>> ((32 : Int32) &&& 0x3f).toInt64.toUInt64).toInt64).toInt32).toInt8.toInt32))]))
  refine own_st (fun u_ k_ => XS.lushr X0.here hx rfl (hb hby own_d_method_4_48) rfl k_) ?_
  show own_Go p e below _ (s₁.setTop (mkF m 49 #[.val (.ref b), .val (.int (16 : Int32)), .val (.long v64), .second] [(.long ((v64.toUInt64 >>> ((32 : Int32) &&& 0x3f).toInt64.toUInt64).toInt64)), (.int ((((v64.toUInt64 >>> ((32 : Int32) &&& 0x3f).toInt64.toUInt64).toInt64).toInt32).toInt8.toInt32))]))
  refine own_st (fun u_ k_ => XS.l2i X0.here hx rfl (hb hby own_d_method_4_49) rfl k_) ?_
  show own_Go p e below _ (s₁.setTop (mkF m 50 #[.val (.ref b), .val (.int (16 : Int32)), .val (.long v64), .second] [(.int (((v64.toUInt64 >>> ((32 : Int32) &&& 0x3f).toInt64.toUInt64).toInt64).toInt32)), (.int ((((v64.toUInt64 >>> ((32 : Int32) &&& 0x3f).toInt64.toUInt64).toInt64).toInt32).toInt8.toInt32))]))
  refine own_st (fun u_ k_ => XS.i2b X0.here hx rfl (hb hby own_d_method_4_50) rfl k_) ?_
  show own_Go p e below _ (s₁.setTop (mkF m 51 #[.val (.ref b), .val (.int (16 : Int32)), .val (.long v64), .second] [(.int ((((v64.toUInt64 >>> ((32 : Int32) &&& 0x3f).toInt64.toUInt64).toInt64).toInt32).toInt8.toInt32)), (.int ((((v64.toUInt64 >>> ((32 : Int32) &&& 0x3f).toInt64.toUInt64).toInt64).toInt32).toInt8.toInt32))]))
  refine own_st (fun u_ k_ => XS.icmpNo X0.here hx rfl (hb hby own_d_method_4_51) rfl (XT.ii_ne_f rfl) k_) ?_
  show own_Go p e below _ (s₁.setTop (mkF m 54 #[.val (.ref b), .val (.int (16 : Int32)), .val (.long v64), .second] []))
  refine own_st (fun u_ k_ => XS.aloadN X0.here hx rfl (hb hby own_d_method_4_54) rfl rfl k_) ?_
  show own_Go p e below _ (s₁.setTop (mkF m 55 #[.val (.ref b), .val (.int (16 : Int32)), .val (.long v64), .second] [(.ref b)]))
  refine own_st (fun u_ k_ => XS.iloadN X0.here hx rfl (hb hby own_d_method_4_55) rfl k_) ?_
  show own_Go p e below _ (s₁.setTop (mkF m 56 #[.val (.ref b), .val (.int (16 : Int32)), .val (.long v64), .second] [(.int (16 : Int32)), (.ref b)]))
  refine own_st (fun u_ k_ => XS.iconst X0.here hx rfl (hb hby own_d_method_4_56) k_) ?_
  show own_Go p e below _ (s₁.setTop (mkF m 57 #[.val (.ref b), .val (.int (16 : Int32)), .val (.long v64), .second] [(.int (4 : Int32)), (.int (16 : Int32)), (.ref b)]))
  refine own_st (fun u_ k_ => XS.iadd X0.here hx rfl (hb hby own_d_method_4_57) rfl k_) ?_
  show own_Go p e below _ (s₁.setTop (mkF m 58 #[.val (.ref b), .val (.int (16 : Int32)), .val (.long v64), .second] [(.int (20 : Int32)), (.ref b)]))
  obtain ⟨cl117, Ar117, q117, S117, N117, H117, G117⟩ := id V
  have hi117 : ¬ ((20 : Int32) < 0 ∨ cl117.slots.size ≤ ((20 : Int32)).toNatClampNeg) := inb_of S117 ⟨by decide, by decide⟩
  have ha117 : cl117.slots[((20 : Int32)).toNatClampNeg]? = some (.int ((((v64.toUInt64 >>> ((24 : Int32) &&& 0x3f).toInt64.toUInt64).toInt64).toInt32).toInt8.toInt32)) := H117.at hi117 f4
  refine own_st (X0.baloadBytes hx (j := (20 : Int32)) (v := (.int ((((v64.toUInt64 >>> ((24 : Int32) &&& 0x3f).toInt64.toUInt64).toInt64).toInt32).toInt8.toInt32))) (by rw [e0]; exact Ar117.1) (State.isArrayOf_alike hZ.alike Ar117.2.1) Ar117.2.2 hi117 ha117 (g := (mkF m 58 #[.val (.ref b), .val (.int (16 : Int32)), .val (.long v64), .second] [(.int (20 : Int32)), (.ref b)])) rfl rfl (hb hby own_d_method_4_58)) ?_
  show own_Go p e below _ (s₁.setTop (mkF m 59 #[.val (.ref b), .val (.int (16 : Int32)), .val (.long v64), .second] [(.int ((((v64.toUInt64 >>> ((24 : Int32) &&& 0x3f).toInt64.toUInt64).toInt64).toInt32).toInt8.toInt32))]))
  refine own_st (fun u_ k_ => XS.lloadN X0.here hx rfl (hb hby own_d_method_4_59) rfl k_) ?_
  show own_Go p e below _ (s₁.setTop (mkF m 60 #[.val (.ref b), .val (.int (16 : Int32)), .val (.long v64), .second] [(.long v64), (.int ((((v64.toUInt64 >>> ((24 : Int32) &&& 0x3f).toInt64.toUInt64).toInt64).toInt32).toInt8.toInt32))]))
  refine own_st (fun u_ k_ => XS.bipush X0.here hx rfl (hb hby own_d_method_4_60) k_) ?_
  show own_Go p e below _ (s₁.setTop (mkF m 62 #[.val (.ref b), .val (.int (16 : Int32)), .val (.long v64), .second] [(.int (24 : Int32)), (.long v64), (.int ((((v64.toUInt64 >>> ((24 : Int32) &&& 0x3f).toInt64.toUInt64).toInt64).toInt32).toInt8.toInt32))]))
  refine own_st (fun u_ k_ => XS.lushr X0.here hx rfl (hb hby own_d_method_4_62) rfl k_) ?_
  show own_Go p e below _ (s₁.setTop (mkF m 63 #[.val (.ref b), .val (.int (16 : Int32)), .val (.long v64), .second] [(.long ((v64.toUInt64 >>> ((24 : Int32) &&& 0x3f).toInt64.toUInt64).toInt64)), (.int ((((v64.toUInt64 >>> ((24 : Int32) &&& 0x3f).toInt64.toUInt64).toInt64).toInt32).toInt8.toInt32))]))
  refine own_st (fun u_ k_ => XS.l2i X0.here hx rfl (hb hby own_d_method_4_63) rfl k_) ?_
  show own_Go p e below _ (s₁.setTop (mkF m 64 #[.val (.ref b), .val (.int (16 : Int32)), .val (.long v64), .second] [(.int (((v64.toUInt64 >>> ((24 : Int32) &&& 0x3f).toInt64.toUInt64).toInt64).toInt32)), (.int ((((v64.toUInt64 >>> ((24 : Int32) &&& 0x3f).toInt64.toUInt64).toInt64).toInt32).toInt8.toInt32))]))
  refine own_st (fun u_ k_ => XS.i2b X0.here hx rfl (hb hby own_d_method_4_64) rfl k_) ?_
  show own_Go p e below _ (s₁.setTop (mkF m 65 #[.val (.ref b), .val (.int (16 : Int32)), .val (.long v64), .second] [(.int ((((v64.toUInt64 >>> ((24 : Int32) &&& 0x3f).toInt64.toUInt64).toInt64).toInt32).toInt8.toInt32)), (.int ((((v64.toUInt64 >>> ((24 : Int32) &&& 0x3f).toInt64.toUInt64).toInt64).toInt32).toInt8.toInt32))]))
  refine own_st (fun u_ k_ => XS.icmpNo X0.here hx rfl (hb hby own_d_method_4_65) rfl (XT.ii_ne_f rfl) k_) ?_
  show own_Go p e below _ (s₁.setTop (mkF m 68 #[.val (.ref b), .val (.int (16 : Int32)), .val (.long v64), .second] []))
  refine own_st (fun u_ k_ => XS.aloadN X0.here hx rfl (hb hby own_d_method_4_68) rfl rfl k_) ?_
  show own_Go p e below _ (s₁.setTop (mkF m 69 #[.val (.ref b), .val (.int (16 : Int32)), .val (.long v64), .second] [(.ref b)]))
  refine own_st (fun u_ k_ => XS.iloadN X0.here hx rfl (hb hby own_d_method_4_69) rfl k_) ?_
  show own_Go p e below _ (s₁.setTop (mkF m 70 #[.val (.ref b), .val (.int (16 : Int32)), .val (.long v64), .second] [(.int (16 : Int32)), (.ref b)]))
  refine own_st (fun u_ k_ => XS.iconst X0.here hx rfl (hb hby own_d_method_4_70) k_) ?_
  show own_Go p e below _ (s₁.setTop (mkF m 71 #[.val (.ref b), .val (.int (16 : Int32)), .val (.long v64), .second] [(.int (5 : Int32)), (.int (16 : Int32)), (.ref b)]))
  refine own_st (fun u_ k_ => XS.iadd X0.here hx rfl (hb hby own_d_method_4_71) rfl k_) ?_
  show own_Go p e below _ (s₁.setTop (mkF m 72 #[.val (.ref b), .val (.int (16 : Int32)), .val (.long v64), .second] [(.int (21 : Int32)), (.ref b)]))
  obtain ⟨cl118, Ar118, q118, S118, N118, H118, G118⟩ := id V
  have hi118 : ¬ ((21 : Int32) < 0 ∨ cl118.slots.size ≤ ((21 : Int32)).toNatClampNeg) := inb_of S118 ⟨by decide, by decide⟩
  have ha118 : cl118.slots[((21 : Int32)).toNatClampNeg]? = some (.int ((((v64.toUInt64 >>> ((16 : Int32) &&& 0x3f).toInt64.toUInt64).toInt64).toInt32).toInt8.toInt32)) := H118.at hi118 f5
  refine own_st (X0.baloadBytes hx (j := (21 : Int32)) (v := (.int ((((v64.toUInt64 >>> ((16 : Int32) &&& 0x3f).toInt64.toUInt64).toInt64).toInt32).toInt8.toInt32))) (by rw [e0]; exact Ar118.1) (State.isArrayOf_alike hZ.alike Ar118.2.1) Ar118.2.2 hi118 ha118 (g := (mkF m 72 #[.val (.ref b), .val (.int (16 : Int32)), .val (.long v64), .second] [(.int (21 : Int32)), (.ref b)])) rfl rfl (hb hby own_d_method_4_72)) ?_
  show own_Go p e below _ (s₁.setTop (mkF m 73 #[.val (.ref b), .val (.int (16 : Int32)), .val (.long v64), .second] [(.int ((((v64.toUInt64 >>> ((16 : Int32) &&& 0x3f).toInt64.toUInt64).toInt64).toInt32).toInt8.toInt32))]))
  refine own_st (fun u_ k_ => XS.lloadN X0.here hx rfl (hb hby own_d_method_4_73) rfl k_) ?_
  show own_Go p e below _ (s₁.setTop (mkF m 74 #[.val (.ref b), .val (.int (16 : Int32)), .val (.long v64), .second] [(.long v64), (.int ((((v64.toUInt64 >>> ((16 : Int32) &&& 0x3f).toInt64.toUInt64).toInt64).toInt32).toInt8.toInt32))]))
  refine own_st (fun u_ k_ => XS.bipush X0.here hx rfl (hb hby own_d_method_4_74) k_) ?_
  show own_Go p e below _ (s₁.setTop (mkF m 76 #[.val (.ref b), .val (.int (16 : Int32)), .val (.long v64), .second] [(.int (16 : Int32)), (.long v64), (.int ((((v64.toUInt64 >>> ((16 : Int32) &&& 0x3f).toInt64.toUInt64).toInt64).toInt32).toInt8.toInt32))]))
  refine own_st (fun u_ k_ => XS.lushr X0.here hx rfl (hb hby own_d_method_4_76) rfl k_) ?_
  show own_Go p e below _ (s₁.setTop (mkF m 77 #[.val (.ref b), .val (.int (16 : Int32)), .val (.long v64), .second] [(.long ((v64.toUInt64 >>> ((16 : Int32) &&& 0x3f).toInt64.toUInt64).toInt64)), (.int ((((v64.toUInt64 >>> ((16 : Int32) &&& 0x3f).toInt64.toUInt64).toInt64).toInt32).toInt8.toInt32))]))
  refine own_st (fun u_ k_ => XS.l2i X0.here hx rfl (hb hby own_d_method_4_77) rfl k_) ?_
  show own_Go p e below _ (s₁.setTop (mkF m 78 #[.val (.ref b), .val (.int (16 : Int32)), .val (.long v64), .second] [(.int (((v64.toUInt64 >>> ((16 : Int32) &&& 0x3f).toInt64.toUInt64).toInt64).toInt32)), (.int ((((v64.toUInt64 >>> ((16 : Int32) &&& 0x3f).toInt64.toUInt64).toInt64).toInt32).toInt8.toInt32))]))
  refine own_st (fun u_ k_ => XS.i2b X0.here hx rfl (hb hby own_d_method_4_78) rfl k_) ?_
  show own_Go p e below _ (s₁.setTop (mkF m 79 #[.val (.ref b), .val (.int (16 : Int32)), .val (.long v64), .second] [(.int ((((v64.toUInt64 >>> ((16 : Int32) &&& 0x3f).toInt64.toUInt64).toInt64).toInt32).toInt8.toInt32)), (.int ((((v64.toUInt64 >>> ((16 : Int32) &&& 0x3f).toInt64.toUInt64).toInt64).toInt32).toInt8.toInt32))]))
  refine own_st (fun u_ k_ => XS.icmpNo X0.here hx rfl (hb hby own_d_method_4_79) rfl (XT.ii_ne_f rfl) k_) ?_
  show own_Go p e below _ (s₁.setTop (mkF m 82 #[.val (.ref b), .val (.int (16 : Int32)), .val (.long v64), .second] []))
  refine own_st (fun u_ k_ => XS.aloadN X0.here hx rfl (hb hby own_d_method_4_82) rfl rfl k_) ?_
  show own_Go p e below _ (s₁.setTop (mkF m 83 #[.val (.ref b), .val (.int (16 : Int32)), .val (.long v64), .second] [(.ref b)]))
  refine own_st (fun u_ k_ => XS.iloadN X0.here hx rfl (hb hby own_d_method_4_83) rfl k_) ?_
  show own_Go p e below _ (s₁.setTop (mkF m 84 #[.val (.ref b), .val (.int (16 : Int32)), .val (.long v64), .second] [(.int (16 : Int32)), (.ref b)]))
  refine own_st (fun u_ k_ => XS.bipush X0.here hx rfl (hb hby own_d_method_4_84) k_) ?_
  show own_Go p e below _ (s₁.setTop (mkF m 86 #[.val (.ref b), .val (.int (16 : Int32)), .val (.long v64), .second] [(.int (6 : Int32)), (.int (16 : Int32)), (.ref b)]))
  refine own_st (fun u_ k_ => XS.iadd X0.here hx rfl (hb hby own_d_method_4_86) rfl k_) ?_
  show own_Go p e below _ (s₁.setTop (mkF m 87 #[.val (.ref b), .val (.int (16 : Int32)), .val (.long v64), .second] [(.int (22 : Int32)), (.ref b)]))
  obtain ⟨cl119, Ar119, q119, S119, N119, H119, G119⟩ := id V
  have hi119 : ¬ ((22 : Int32) < 0 ∨ cl119.slots.size ≤ ((22 : Int32)).toNatClampNeg) := inb_of S119 ⟨by decide, by decide⟩
  have ha119 : cl119.slots[((22 : Int32)).toNatClampNeg]? = some (.int ((((v64.toUInt64 >>> ((8 : Int32) &&& 0x3f).toInt64.toUInt64).toInt64).toInt32).toInt8.toInt32)) := H119.at hi119 f6
  refine own_st (X0.baloadBytes hx (j := (22 : Int32)) (v := (.int ((((v64.toUInt64 >>> ((8 : Int32) &&& 0x3f).toInt64.toUInt64).toInt64).toInt32).toInt8.toInt32))) (by rw [e0]; exact Ar119.1) (State.isArrayOf_alike hZ.alike Ar119.2.1) Ar119.2.2 hi119 ha119 (g := (mkF m 87 #[.val (.ref b), .val (.int (16 : Int32)), .val (.long v64), .second] [(.int (22 : Int32)), (.ref b)])) rfl rfl (hb hby own_d_method_4_87)) ?_
  show own_Go p e below _ (s₁.setTop (mkF m 88 #[.val (.ref b), .val (.int (16 : Int32)), .val (.long v64), .second] [(.int ((((v64.toUInt64 >>> ((8 : Int32) &&& 0x3f).toInt64.toUInt64).toInt64).toInt32).toInt8.toInt32))]))
  refine own_st (fun u_ k_ => XS.lloadN X0.here hx rfl (hb hby own_d_method_4_88) rfl k_) ?_
  show own_Go p e below _ (s₁.setTop (mkF m 89 #[.val (.ref b), .val (.int (16 : Int32)), .val (.long v64), .second] [(.long v64), (.int ((((v64.toUInt64 >>> ((8 : Int32) &&& 0x3f).toInt64.toUInt64).toInt64).toInt32).toInt8.toInt32))]))
  refine own_st (fun u_ k_ => XS.bipush X0.here hx rfl (hb hby own_d_method_4_89) k_) ?_
  show own_Go p e below _ (s₁.setTop (mkF m 91 #[.val (.ref b), .val (.int (16 : Int32)), .val (.long v64), .second] [(.int (8 : Int32)), (.long v64), (.int ((((v64.toUInt64 >>> ((8 : Int32) &&& 0x3f).toInt64.toUInt64).toInt64).toInt32).toInt8.toInt32))]))
  refine own_st (fun u_ k_ => XS.lushr X0.here hx rfl (hb hby own_d_method_4_91) rfl k_) ?_
  show own_Go p e below _ (s₁.setTop (mkF m 92 #[.val (.ref b), .val (.int (16 : Int32)), .val (.long v64), .second] [(.long ((v64.toUInt64 >>> ((8 : Int32) &&& 0x3f).toInt64.toUInt64).toInt64)), (.int ((((v64.toUInt64 >>> ((8 : Int32) &&& 0x3f).toInt64.toUInt64).toInt64).toInt32).toInt8.toInt32))]))
  refine own_st (fun u_ k_ => XS.l2i X0.here hx rfl (hb hby own_d_method_4_92) rfl k_) ?_
  show own_Go p e below _ (s₁.setTop (mkF m 93 #[.val (.ref b), .val (.int (16 : Int32)), .val (.long v64), .second] [(.int (((v64.toUInt64 >>> ((8 : Int32) &&& 0x3f).toInt64.toUInt64).toInt64).toInt32)), (.int ((((v64.toUInt64 >>> ((8 : Int32) &&& 0x3f).toInt64.toUInt64).toInt64).toInt32).toInt8.toInt32))]))
  refine own_st (fun u_ k_ => XS.i2b X0.here hx rfl (hb hby own_d_method_4_93) rfl k_) ?_
  show own_Go p e below _ (s₁.setTop (mkF m 94 #[.val (.ref b), .val (.int (16 : Int32)), .val (.long v64), .second] [(.int ((((v64.toUInt64 >>> ((8 : Int32) &&& 0x3f).toInt64.toUInt64).toInt64).toInt32).toInt8.toInt32)), (.int ((((v64.toUInt64 >>> ((8 : Int32) &&& 0x3f).toInt64.toUInt64).toInt64).toInt32).toInt8.toInt32))]))
  refine own_st (fun u_ k_ => XS.icmpNo X0.here hx rfl (hb hby own_d_method_4_94) rfl (XT.ii_ne_f rfl) k_) ?_
  show own_Go p e below _ (s₁.setTop (mkF m 97 #[.val (.ref b), .val (.int (16 : Int32)), .val (.long v64), .second] []))
  refine own_st (fun u_ k_ => XS.aloadN X0.here hx rfl (hb hby own_d_method_4_97) rfl rfl k_) ?_
  show own_Go p e below _ (s₁.setTop (mkF m 98 #[.val (.ref b), .val (.int (16 : Int32)), .val (.long v64), .second] [(.ref b)]))
  refine own_st (fun u_ k_ => XS.iloadN X0.here hx rfl (hb hby own_d_method_4_98) rfl k_) ?_
  show own_Go p e below _ (s₁.setTop (mkF m 99 #[.val (.ref b), .val (.int (16 : Int32)), .val (.long v64), .second] [(.int (16 : Int32)), (.ref b)]))
  refine own_st (fun u_ k_ => XS.bipush X0.here hx rfl (hb hby own_d_method_4_99) k_) ?_
  show own_Go p e below _ (s₁.setTop (mkF m 101 #[.val (.ref b), .val (.int (16 : Int32)), .val (.long v64), .second] [(.int (7 : Int32)), (.int (16 : Int32)), (.ref b)]))
  refine own_st (fun u_ k_ => XS.iadd X0.here hx rfl (hb hby own_d_method_4_101) rfl k_) ?_
  show own_Go p e below _ (s₁.setTop (mkF m 102 #[.val (.ref b), .val (.int (16 : Int32)), .val (.long v64), .second] [(.int (23 : Int32)), (.ref b)]))
  obtain ⟨cl120, Ar120, q120, S120, N120, H120, G120⟩ := id V
  have hi120 : ¬ ((23 : Int32) < 0 ∨ cl120.slots.size ≤ ((23 : Int32)).toNatClampNeg) := inb_of S120 ⟨by decide, by decide⟩
  have ha120 : cl120.slots[((23 : Int32)).toNatClampNeg]? = some (.int ((v64.toInt32).toInt8.toInt32)) := H120.at hi120 f7
  refine own_st (X0.baloadBytes hx (j := (23 : Int32)) (v := (.int ((v64.toInt32).toInt8.toInt32))) (by rw [e0]; exact Ar120.1) (State.isArrayOf_alike hZ.alike Ar120.2.1) Ar120.2.2 hi120 ha120 (g := (mkF m 102 #[.val (.ref b), .val (.int (16 : Int32)), .val (.long v64), .second] [(.int (23 : Int32)), (.ref b)])) rfl rfl (hb hby own_d_method_4_102)) ?_
  show own_Go p e below _ (s₁.setTop (mkF m 103 #[.val (.ref b), .val (.int (16 : Int32)), .val (.long v64), .second] [(.int ((v64.toInt32).toInt8.toInt32))]))
  refine own_st (fun u_ k_ => XS.lloadN X0.here hx rfl (hb hby own_d_method_4_103) rfl k_) ?_
  show own_Go p e below _ (s₁.setTop (mkF m 104 #[.val (.ref b), .val (.int (16 : Int32)), .val (.long v64), .second] [(.long v64), (.int ((v64.toInt32).toInt8.toInt32))]))
  refine own_st (fun u_ k_ => XS.l2i X0.here hx rfl (hb hby own_d_method_4_104) rfl k_) ?_
  show own_Go p e below _ (s₁.setTop (mkF m 105 #[.val (.ref b), .val (.int (16 : Int32)), .val (.long v64), .second] [(.int (v64.toInt32)), (.int ((v64.toInt32).toInt8.toInt32))]))
  refine own_st (fun u_ k_ => XS.i2b X0.here hx rfl (hb hby own_d_method_4_105) rfl k_) ?_
  show own_Go p e below _ (s₁.setTop (mkF m 106 #[.val (.ref b), .val (.int (16 : Int32)), .val (.long v64), .second] [(.int ((v64.toInt32).toInt8.toInt32)), (.int ((v64.toInt32).toInt8.toInt32))]))
  refine own_st (fun u_ k_ => XS.icmpNo X0.here hx rfl (hb hby own_d_method_4_106) rfl (XT.ii_ne_f rfl) k_) ?_
  show own_Go p e below _ (s₁.setTop (mkF m 109 #[.val (.ref b), .val (.int (16 : Int32)), .val (.long v64), .second] []))
  refine own_st (fun u_ k_ => XS.iconst X0.here hx rfl (hb hby own_d_method_4_109) k_) ?_
  show own_Go p e below _ (s₁.setTop (mkF m 110 #[.val (.ref b), .val (.int (16 : Int32)), .val (.long v64), .second] [(.int (1 : Int32))]))
  refine own_st (fun u_ k_ => XS.goto X0.here hx rfl (pc0 := 110) (pc' := 114) rfl (hb hby own_d_method_4_110) (by decide) (by decide) k_) ?_
  show own_Go p e below _ (s₁.setTop (mkF m 114 #[.val (.ref b), .val (.int (16 : Int32)), .val (.long v64), .second] [(.int (1 : Int32))]))
  exact own_retX X0 hx hlk hret rfl (Or.inl ⟨rfl, by simp, _, rfl⟩) (hb hby own_d_method_4_114) (by decide) (by decide) (show QrmE16 Z we b kb vs v64 h0 n0 (some (.int (1 : Int32))) s₁.heap _ from (by rw [e0]; exact ⟨rfl, N0, rfl⟩))
theorem own_ef_rmE24 (m : MethodId) (b : Addr) (v64 : Int64)  : entryFrame m #[(.ref b), (.int (24 : Int32)), (.long v64)] 4 = mkF m 0 #[.val (.ref b), .val (.int (24 : Int32)), .val (.long v64), .second] [] := by first | (simp [entryFrame, mkF, argsToLocals, Value.category, maxLocals]; done) | rfl
def QrmE24 (Z : State) (we : Addr) (b : Addr) (kb : ClassId) (vs : List Value) (v64 : Int64) (h0 : Heap) (n0 : Nat) (v : Option Value) (h : Heap) (L : List Loc) : Prop := v = some (.int (1 : Int32)) ∧ Fr n0 L ∧ h = h0
set_option maxRecDepth 65536 in
set_option maxHeartbeats 40000000 in
theorem rmE24 (l : Launch) (Z : State) (a0 : Array Value) (hw : own_H a0 Z) (ws : List Jvm.Cond) (we : Addr) (hS : own_S Z we) (b : Addr) (kb : ClassId) (vs : List Value) (v64 : Int64) (h0 : Heap) (n0 : Nat) (O0 : Old Z n0 h0) (V : Arv Z h0 b kb .byte (32 : Int32) vs (.int (0 : Int32))) (f0 : vs.getD 24 (.int (0 : Int32)) = .int ((((v64.toUInt64 >>> ((56 : Int32) &&& 0x3f).toInt64.toUInt64).toInt64).toInt32).toInt8.toInt32)) (f1 : vs.getD 25 (.int (0 : Int32)) = .int ((((v64.toUInt64 >>> ((48 : Int32) &&& 0x3f).toInt64.toUInt64).toInt64).toInt32).toInt8.toInt32)) (f2 : vs.getD 26 (.int (0 : Int32)) = .int ((((v64.toUInt64 >>> ((40 : Int32) &&& 0x3f).toInt64.toUInt64).toInt64).toInt32).toInt8.toInt32)) (f3 : vs.getD 27 (.int (0 : Int32)) = .int ((((v64.toUInt64 >>> ((32 : Int32) &&& 0x3f).toInt64.toUInt64).toInt64).toInt32).toInt8.toInt32)) (f4 : vs.getD 28 (.int (0 : Int32)) = .int ((((v64.toUInt64 >>> ((24 : Int32) &&& 0x3f).toInt64.toUInt64).toInt64).toInt32).toInt8.toInt32)) (f5 : vs.getD 29 (.int (0 : Int32)) = .int ((((v64.toUInt64 >>> ((16 : Int32) &&& 0x3f).toInt64.toUInt64).toInt64).toInt32).toInt8.toInt32)) (f6 : vs.getD 30 (.int (0 : Int32)) = .int ((((v64.toUInt64 >>> ((8 : Int32) &&& 0x3f).toInt64.toUInt64).toInt64).toInt32).toInt8.toInt32)) (f7 : vs.getD 31 (.int (0 : Int32)) = .int ((v64.toInt32).toInt8.toInt32)) :
    own_Met l own_y_166 method_4_code 4 (some .boolean) ws ({ frames := 0, cells := 0, slots := 0, locals := 0 } : Room) Z h0 #[(.ref b), (.int (24 : Int32)), (.long v64)] (QrmE24 Z we b kb vs v64 h0 n0) := by
  refine own_body (plainFor_of_name own_pn_78) ?_
  intro p e s m below meth c s₁ hx hby hml hown hnm hret hlk hZ e0 X0
  have N0 := Fr.nil n0
  refine own_st (fun u_ k_ => castTop (own_ef_rmE24 m b v64) k_) ?_
  show own_Go p e below _ (s₁.setTop (mkF m 0 #[.val (.ref b), .val (.int (24 : Int32)), .val (.long v64), .second] []))
  refine own_st (fun u_ k_ => XS.aloadN X0.here hx rfl (hb hby own_d_method_4_0) rfl rfl k_) ?_
  show own_Go p e below _ (s₁.setTop (mkF m 1 #[.val (.ref b), .val (.int (24 : Int32)), .val (.long v64), .second] [(.ref b)]))
  refine own_st (fun u_ k_ => XS.iloadN X0.here hx rfl (hb hby own_d_method_4_1) rfl k_) ?_
  show own_Go p e below _ (s₁.setTop (mkF m 2 #[.val (.ref b), .val (.int (24 : Int32)), .val (.long v64), .second] [(.int (24 : Int32)), (.ref b)]))
  obtain ⟨cl121, Ar121, q121, S121, N121, H121, G121⟩ := id V
  have hi121 : ¬ ((24 : Int32) < 0 ∨ cl121.slots.size ≤ ((24 : Int32)).toNatClampNeg) := inb_of S121 ⟨by decide, by decide⟩
  have ha121 : cl121.slots[((24 : Int32)).toNatClampNeg]? = some (.int ((((v64.toUInt64 >>> ((56 : Int32) &&& 0x3f).toInt64.toUInt64).toInt64).toInt32).toInt8.toInt32)) := H121.at hi121 f0
  refine own_st (X0.baloadBytes hx (j := (24 : Int32)) (v := (.int ((((v64.toUInt64 >>> ((56 : Int32) &&& 0x3f).toInt64.toUInt64).toInt64).toInt32).toInt8.toInt32))) (by rw [e0]; exact Ar121.1) (State.isArrayOf_alike hZ.alike Ar121.2.1) Ar121.2.2 hi121 ha121 (g := (mkF m 2 #[.val (.ref b), .val (.int (24 : Int32)), .val (.long v64), .second] [(.int (24 : Int32)), (.ref b)])) rfl rfl (hb hby own_d_method_4_2)) ?_
  show own_Go p e below _ (s₁.setTop (mkF m 3 #[.val (.ref b), .val (.int (24 : Int32)), .val (.long v64), .second] [(.int ((((v64.toUInt64 >>> ((56 : Int32) &&& 0x3f).toInt64.toUInt64).toInt64).toInt32).toInt8.toInt32))]))
  refine own_st (fun u_ k_ => XS.lloadN X0.here hx rfl (hb hby own_d_method_4_3) rfl k_) ?_
  show own_Go p e below _ (s₁.setTop (mkF m 4 #[.val (.ref b), .val (.int (24 : Int32)), .val (.long v64), .second] [(.long v64), (.int ((((v64.toUInt64 >>> ((56 : Int32) &&& 0x3f).toInt64.toUInt64).toInt64).toInt32).toInt8.toInt32))]))
  refine own_st (fun u_ k_ => XS.bipush X0.here hx rfl (hb hby own_d_method_4_4) k_) ?_
  show own_Go p e below _ (s₁.setTop (mkF m 6 #[.val (.ref b), .val (.int (24 : Int32)), .val (.long v64), .second] [(.int (56 : Int32)), (.long v64), (.int ((((v64.toUInt64 >>> ((56 : Int32) &&& 0x3f).toInt64.toUInt64).toInt64).toInt32).toInt8.toInt32))]))
  refine own_st (fun u_ k_ => XS.lushr X0.here hx rfl (hb hby own_d_method_4_6) rfl k_) ?_
  show own_Go p e below _ (s₁.setTop (mkF m 7 #[.val (.ref b), .val (.int (24 : Int32)), .val (.long v64), .second] [(.long ((v64.toUInt64 >>> ((56 : Int32) &&& 0x3f).toInt64.toUInt64).toInt64)), (.int ((((v64.toUInt64 >>> ((56 : Int32) &&& 0x3f).toInt64.toUInt64).toInt64).toInt32).toInt8.toInt32))]))
  refine own_st (fun u_ k_ => XS.l2i X0.here hx rfl (hb hby own_d_method_4_7) rfl k_) ?_
  show own_Go p e below _ (s₁.setTop (mkF m 8 #[.val (.ref b), .val (.int (24 : Int32)), .val (.long v64), .second] [(.int (((v64.toUInt64 >>> ((56 : Int32) &&& 0x3f).toInt64.toUInt64).toInt64).toInt32)), (.int ((((v64.toUInt64 >>> ((56 : Int32) &&& 0x3f).toInt64.toUInt64).toInt64).toInt32).toInt8.toInt32))]))
  refine own_st (fun u_ k_ => XS.i2b X0.here hx rfl (hb hby own_d_method_4_8) rfl k_) ?_
  show own_Go p e below _ (s₁.setTop (mkF m 9 #[.val (.ref b), .val (.int (24 : Int32)), .val (.long v64), .second] [(.int ((((v64.toUInt64 >>> ((56 : Int32) &&& 0x3f).toInt64.toUInt64).toInt64).toInt32).toInt8.toInt32)), (.int ((((v64.toUInt64 >>> ((56 : Int32) &&& 0x3f).toInt64.toUInt64).toInt64).toInt32).toInt8.toInt32))]))
  refine own_st (fun u_ k_ => XS.icmpNo X0.here hx rfl (hb hby own_d_method_4_9) rfl (XT.ii_ne_f rfl) k_) ?_
  show own_Go p e below _ (s₁.setTop (mkF m 12 #[.val (.ref b), .val (.int (24 : Int32)), .val (.long v64), .second] []))
  refine own_st (fun u_ k_ => XS.aloadN X0.here hx rfl (hb hby own_d_method_4_12) rfl rfl k_) ?_
  show own_Go p e below _ (s₁.setTop (mkF m 13 #[.val (.ref b), .val (.int (24 : Int32)), .val (.long v64), .second] [(.ref b)]))
  refine own_st (fun u_ k_ => XS.iloadN X0.here hx rfl (hb hby own_d_method_4_13) rfl k_) ?_
  show own_Go p e below _ (s₁.setTop (mkF m 14 #[.val (.ref b), .val (.int (24 : Int32)), .val (.long v64), .second] [(.int (24 : Int32)), (.ref b)]))
  refine own_st (fun u_ k_ => XS.iconst X0.here hx rfl (hb hby own_d_method_4_14) k_) ?_
  show own_Go p e below _ (s₁.setTop (mkF m 15 #[.val (.ref b), .val (.int (24 : Int32)), .val (.long v64), .second] [(.int (1 : Int32)), (.int (24 : Int32)), (.ref b)]))
  refine own_st (fun u_ k_ => XS.iadd X0.here hx rfl (hb hby own_d_method_4_15) rfl k_) ?_
  show own_Go p e below _ (s₁.setTop (mkF m 16 #[.val (.ref b), .val (.int (24 : Int32)), .val (.long v64), .second] [(.int (25 : Int32)), (.ref b)]))
  obtain ⟨cl122, Ar122, q122, S122, N122, H122, G122⟩ := id V
  have hi122 : ¬ ((25 : Int32) < 0 ∨ cl122.slots.size ≤ ((25 : Int32)).toNatClampNeg) := inb_of S122 ⟨by decide, by decide⟩
  have ha122 : cl122.slots[((25 : Int32)).toNatClampNeg]? = some (.int ((((v64.toUInt64 >>> ((48 : Int32) &&& 0x3f).toInt64.toUInt64).toInt64).toInt32).toInt8.toInt32)) := H122.at hi122 f1
  refine own_st (X0.baloadBytes hx (j := (25 : Int32)) (v := (.int ((((v64.toUInt64 >>> ((48 : Int32) &&& 0x3f).toInt64.toUInt64).toInt64).toInt32).toInt8.toInt32))) (by rw [e0]; exact Ar122.1) (State.isArrayOf_alike hZ.alike Ar122.2.1) Ar122.2.2 hi122 ha122 (g := (mkF m 16 #[.val (.ref b), .val (.int (24 : Int32)), .val (.long v64), .second] [(.int (25 : Int32)), (.ref b)])) rfl rfl (hb hby own_d_method_4_16)) ?_
  show own_Go p e below _ (s₁.setTop (mkF m 17 #[.val (.ref b), .val (.int (24 : Int32)), .val (.long v64), .second] [(.int ((((v64.toUInt64 >>> ((48 : Int32) &&& 0x3f).toInt64.toUInt64).toInt64).toInt32).toInt8.toInt32))]))
  refine own_st (fun u_ k_ => XS.lloadN X0.here hx rfl (hb hby own_d_method_4_17) rfl k_) ?_
  show own_Go p e below _ (s₁.setTop (mkF m 18 #[.val (.ref b), .val (.int (24 : Int32)), .val (.long v64), .second] [(.long v64), (.int ((((v64.toUInt64 >>> ((48 : Int32) &&& 0x3f).toInt64.toUInt64).toInt64).toInt32).toInt8.toInt32))]))
  refine own_st (fun u_ k_ => XS.bipush X0.here hx rfl (hb hby own_d_method_4_18) k_) ?_
  show own_Go p e below _ (s₁.setTop (mkF m 20 #[.val (.ref b), .val (.int (24 : Int32)), .val (.long v64), .second] [(.int (48 : Int32)), (.long v64), (.int ((((v64.toUInt64 >>> ((48 : Int32) &&& 0x3f).toInt64.toUInt64).toInt64).toInt32).toInt8.toInt32))]))
  refine own_st (fun u_ k_ => XS.lushr X0.here hx rfl (hb hby own_d_method_4_20) rfl k_) ?_
  show own_Go p e below _ (s₁.setTop (mkF m 21 #[.val (.ref b), .val (.int (24 : Int32)), .val (.long v64), .second] [(.long ((v64.toUInt64 >>> ((48 : Int32) &&& 0x3f).toInt64.toUInt64).toInt64)), (.int ((((v64.toUInt64 >>> ((48 : Int32) &&& 0x3f).toInt64.toUInt64).toInt64).toInt32).toInt8.toInt32))]))
  refine own_st (fun u_ k_ => XS.l2i X0.here hx rfl (hb hby own_d_method_4_21) rfl k_) ?_
  show own_Go p e below _ (s₁.setTop (mkF m 22 #[.val (.ref b), .val (.int (24 : Int32)), .val (.long v64), .second] [(.int (((v64.toUInt64 >>> ((48 : Int32) &&& 0x3f).toInt64.toUInt64).toInt64).toInt32)), (.int ((((v64.toUInt64 >>> ((48 : Int32) &&& 0x3f).toInt64.toUInt64).toInt64).toInt32).toInt8.toInt32))]))
  refine own_st (fun u_ k_ => XS.i2b X0.here hx rfl (hb hby own_d_method_4_22) rfl k_) ?_
  show own_Go p e below _ (s₁.setTop (mkF m 23 #[.val (.ref b), .val (.int (24 : Int32)), .val (.long v64), .second] [(.int ((((v64.toUInt64 >>> ((48 : Int32) &&& 0x3f).toInt64.toUInt64).toInt64).toInt32).toInt8.toInt32)), (.int ((((v64.toUInt64 >>> ((48 : Int32) &&& 0x3f).toInt64.toUInt64).toInt64).toInt32).toInt8.toInt32))]))
  refine own_st (fun u_ k_ => XS.icmpNo X0.here hx rfl (hb hby own_d_method_4_23) rfl (XT.ii_ne_f rfl) k_) ?_
  show own_Go p e below _ (s₁.setTop (mkF m 26 #[.val (.ref b), .val (.int (24 : Int32)), .val (.long v64), .second] []))
  refine own_st (fun u_ k_ => XS.aloadN X0.here hx rfl (hb hby own_d_method_4_26) rfl rfl k_) ?_
  show own_Go p e below _ (s₁.setTop (mkF m 27 #[.val (.ref b), .val (.int (24 : Int32)), .val (.long v64), .second] [(.ref b)]))
  refine own_st (fun u_ k_ => XS.iloadN X0.here hx rfl (hb hby own_d_method_4_27) rfl k_) ?_
  show own_Go p e below _ (s₁.setTop (mkF m 28 #[.val (.ref b), .val (.int (24 : Int32)), .val (.long v64), .second] [(.int (24 : Int32)), (.ref b)]))
  refine own_st (fun u_ k_ => XS.iconst X0.here hx rfl (hb hby own_d_method_4_28) k_) ?_
  show own_Go p e below _ (s₁.setTop (mkF m 29 #[.val (.ref b), .val (.int (24 : Int32)), .val (.long v64), .second] [(.int (2 : Int32)), (.int (24 : Int32)), (.ref b)]))
  refine own_st (fun u_ k_ => XS.iadd X0.here hx rfl (hb hby own_d_method_4_29) rfl k_) ?_
  show own_Go p e below _ (s₁.setTop (mkF m 30 #[.val (.ref b), .val (.int (24 : Int32)), .val (.long v64), .second] [(.int (26 : Int32)), (.ref b)]))
  obtain ⟨cl123, Ar123, q123, S123, N123, H123, G123⟩ := id V
  have hi123 : ¬ ((26 : Int32) < 0 ∨ cl123.slots.size ≤ ((26 : Int32)).toNatClampNeg) := inb_of S123 ⟨by decide, by decide⟩
  have ha123 : cl123.slots[((26 : Int32)).toNatClampNeg]? = some (.int ((((v64.toUInt64 >>> ((40 : Int32) &&& 0x3f).toInt64.toUInt64).toInt64).toInt32).toInt8.toInt32)) := H123.at hi123 f2
  refine own_st (X0.baloadBytes hx (j := (26 : Int32)) (v := (.int ((((v64.toUInt64 >>> ((40 : Int32) &&& 0x3f).toInt64.toUInt64).toInt64).toInt32).toInt8.toInt32))) (by rw [e0]; exact Ar123.1) (State.isArrayOf_alike hZ.alike Ar123.2.1) Ar123.2.2 hi123 ha123 (g := (mkF m 30 #[.val (.ref b), .val (.int (24 : Int32)), .val (.long v64), .second] [(.int (26 : Int32)), (.ref b)])) rfl rfl (hb hby own_d_method_4_30)) ?_
  show own_Go p e below _ (s₁.setTop (mkF m 31 #[.val (.ref b), .val (.int (24 : Int32)), .val (.long v64), .second] [(.int ((((v64.toUInt64 >>> ((40 : Int32) &&& 0x3f).toInt64.toUInt64).toInt64).toInt32).toInt8.toInt32))]))
  refine own_st (fun u_ k_ => XS.lloadN X0.here hx rfl (hb hby own_d_method_4_31) rfl k_) ?_
  show own_Go p e below _ (s₁.setTop (mkF m 32 #[.val (.ref b), .val (.int (24 : Int32)), .val (.long v64), .second] [(.long v64), (.int ((((v64.toUInt64 >>> ((40 : Int32) &&& 0x3f).toInt64.toUInt64).toInt64).toInt32).toInt8.toInt32))]))
  refine own_st (fun u_ k_ => XS.bipush X0.here hx rfl (hb hby own_d_method_4_32) k_) ?_
  show own_Go p e below _ (s₁.setTop (mkF m 34 #[.val (.ref b), .val (.int (24 : Int32)), .val (.long v64), .second] [(.int (40 : Int32)), (.long v64), (.int ((((v64.toUInt64 >>> ((40 : Int32) &&& 0x3f).toInt64.toUInt64).toInt64).toInt32).toInt8.toInt32))]))
  refine own_st (fun u_ k_ => XS.lushr X0.here hx rfl (hb hby own_d_method_4_34) rfl k_) ?_
  show own_Go p e below _ (s₁.setTop (mkF m 35 #[.val (.ref b), .val (.int (24 : Int32)), .val (.long v64), .second] [(.long ((v64.toUInt64 >>> ((40 : Int32) &&& 0x3f).toInt64.toUInt64).toInt64)), (.int ((((v64.toUInt64 >>> ((40 : Int32) &&& 0x3f).toInt64.toUInt64).toInt64).toInt32).toInt8.toInt32))]))
  refine own_st (fun u_ k_ => XS.l2i X0.here hx rfl (hb hby own_d_method_4_35) rfl k_) ?_
  show own_Go p e below _ (s₁.setTop (mkF m 36 #[.val (.ref b), .val (.int (24 : Int32)), .val (.long v64), .second] [(.int (((v64.toUInt64 >>> ((40 : Int32) &&& 0x3f).toInt64.toUInt64).toInt64).toInt32)), (.int ((((v64.toUInt64 >>> ((40 : Int32) &&& 0x3f).toInt64.toUInt64).toInt64).toInt32).toInt8.toInt32))]))
  refine own_st (fun u_ k_ => XS.i2b X0.here hx rfl (hb hby own_d_method_4_36) rfl k_) ?_
  show own_Go p e below _ (s₁.setTop (mkF m 37 #[.val (.ref b), .val (.int (24 : Int32)), .val (.long v64), .second] [(.int ((((v64.toUInt64 >>> ((40 : Int32) &&& 0x3f).toInt64.toUInt64).toInt64).toInt32).toInt8.toInt32)), (.int ((((v64.toUInt64 >>> ((40 : Int32) &&& 0x3f).toInt64.toUInt64).toInt64).toInt32).toInt8.toInt32))]))
  refine own_st (fun u_ k_ => XS.icmpNo X0.here hx rfl (hb hby own_d_method_4_37) rfl (XT.ii_ne_f rfl) k_) ?_
  show own_Go p e below _ (s₁.setTop (mkF m 40 #[.val (.ref b), .val (.int (24 : Int32)), .val (.long v64), .second] []))
  refine own_st (fun u_ k_ => XS.aloadN X0.here hx rfl (hb hby own_d_method_4_40) rfl rfl k_) ?_
  show own_Go p e below _ (s₁.setTop (mkF m 41 #[.val (.ref b), .val (.int (24 : Int32)), .val (.long v64), .second] [(.ref b)]))
  refine own_st (fun u_ k_ => XS.iloadN X0.here hx rfl (hb hby own_d_method_4_41) rfl k_) ?_
  show own_Go p e below _ (s₁.setTop (mkF m 42 #[.val (.ref b), .val (.int (24 : Int32)), .val (.long v64), .second] [(.int (24 : Int32)), (.ref b)]))
  refine own_st (fun u_ k_ => XS.iconst X0.here hx rfl (hb hby own_d_method_4_42) k_) ?_
  show own_Go p e below _ (s₁.setTop (mkF m 43 #[.val (.ref b), .val (.int (24 : Int32)), .val (.long v64), .second] [(.int (3 : Int32)), (.int (24 : Int32)), (.ref b)]))
  refine own_st (fun u_ k_ => XS.iadd X0.here hx rfl (hb hby own_d_method_4_43) rfl k_) ?_
  show own_Go p e below _ (s₁.setTop (mkF m 44 #[.val (.ref b), .val (.int (24 : Int32)), .val (.long v64), .second] [(.int (27 : Int32)), (.ref b)]))
  obtain ⟨cl124, Ar124, q124, S124, N124, H124, G124⟩ := id V
  have hi124 : ¬ ((27 : Int32) < 0 ∨ cl124.slots.size ≤ ((27 : Int32)).toNatClampNeg) := inb_of S124 ⟨by decide, by decide⟩
  have ha124 : cl124.slots[((27 : Int32)).toNatClampNeg]? = some (.int ((((v64.toUInt64 >>> ((32 : Int32) &&& 0x3f).toInt64.toUInt64).toInt64).toInt32).toInt8.toInt32)) := H124.at hi124 f3
  refine own_st (X0.baloadBytes hx (j := (27 : Int32)) (v := (.int ((((v64.toUInt64 >>> ((32 : Int32) &&& 0x3f).toInt64.toUInt64).toInt64).toInt32).toInt8.toInt32))) (by rw [e0]; exact Ar124.1) (State.isArrayOf_alike hZ.alike Ar124.2.1) Ar124.2.2 hi124 ha124 (g := (mkF m 44 #[.val (.ref b), .val (.int (24 : Int32)), .val (.long v64), .second] [(.int (27 : Int32)), (.ref b)])) rfl rfl (hb hby own_d_method_4_44)) ?_
  show own_Go p e below _ (s₁.setTop (mkF m 45 #[.val (.ref b), .val (.int (24 : Int32)), .val (.long v64), .second] [(.int ((((v64.toUInt64 >>> ((32 : Int32) &&& 0x3f).toInt64.toUInt64).toInt64).toInt32).toInt8.toInt32))]))
  refine own_st (fun u_ k_ => XS.lloadN X0.here hx rfl (hb hby own_d_method_4_45) rfl k_) ?_
  show own_Go p e below _ (s₁.setTop (mkF m 46 #[.val (.ref b), .val (.int (24 : Int32)), .val (.long v64), .second] [(.long v64), (.int ((((v64.toUInt64 >>> ((32 : Int32) &&& 0x3f).toInt64.toUInt64).toInt64).toInt32).toInt8.toInt32))]))
  refine own_st (fun u_ k_ => XS.bipush X0.here hx rfl (hb hby own_d_method_4_46) k_) ?_
  show own_Go p e below _ (s₁.setTop (mkF m 48 #[.val (.ref b), .val (.int (24 : Int32)), .val (.long v64), .second] [(.int (32 : Int32)), (.long v64), (.int ((((v64.toUInt64 >>> ((32 : Int32) &&& 0x3f).toInt64.toUInt64).toInt64).toInt32).toInt8.toInt32))]))
  refine own_st (fun u_ k_ => XS.lushr X0.here hx rfl (hb hby own_d_method_4_48) rfl k_) ?_
  show own_Go p e below _ (s₁.setTop (mkF m 49 #[.val (.ref b), .val (.int (24 : Int32)), .val (.long v64), .second] [(.long ((v64.toUInt64 >>> ((32 : Int32) &&& 0x3f).toInt64.toUInt64).toInt64)), (.int ((((v64.toUInt64 >>> ((32 : Int32) &&& 0x3f).toInt64.toUInt64).toInt64).toInt32).toInt8.toInt32))]))
  refine own_st (fun u_ k_ => XS.l2i X0.here hx rfl (hb hby own_d_method_4_49) rfl k_) ?_
  show own_Go p e below _ (s₁.setTop (mkF m 50 #[.val (.ref b), .val (.int (24 : Int32)), .val (.long v64), .second] [(.int (((v64.toUInt64 >>> ((32 : Int32) &&& 0x3f).toInt64.toUInt64).toInt64).toInt32)), (.int ((((v64.toUInt64 >>> ((32 : Int32) &&& 0x3f).toInt64.toUInt64).toInt64).toInt32).toInt8.toInt32))]))
  refine own_st (fun u_ k_ => XS.i2b X0.here hx rfl (hb hby own_d_method_4_50) rfl k_) ?_
  show own_Go p e below _ (s₁.setTop (mkF m 51 #[.val (.ref b), .val (.int (24 : Int32)), .val (.long v64), .second] [(.int ((((v64.toUInt64 >>> ((32 : Int32) &&& 0x3f).toInt64.toUInt64).toInt64).toInt32).toInt8.toInt32)), (.int ((((v64.toUInt64 >>> ((32 : Int32) &&& 0x3f).toInt64.toUInt64).toInt64).toInt32).toInt8.toInt32))]))
  refine own_st (fun u_ k_ => XS.icmpNo X0.here hx rfl (hb hby own_d_method_4_51) rfl (XT.ii_ne_f rfl) k_) ?_
  show own_Go p e below _ (s₁.setTop (mkF m 54 #[.val (.ref b), .val (.int (24 : Int32)), .val (.long v64), .second] []))
  refine own_st (fun u_ k_ => XS.aloadN X0.here hx rfl (hb hby own_d_method_4_54) rfl rfl k_) ?_
  show own_Go p e below _ (s₁.setTop (mkF m 55 #[.val (.ref b), .val (.int (24 : Int32)), .val (.long v64), .second] [(.ref b)]))
  refine own_st (fun u_ k_ => XS.iloadN X0.here hx rfl (hb hby own_d_method_4_55) rfl k_) ?_
  show own_Go p e below _ (s₁.setTop (mkF m 56 #[.val (.ref b), .val (.int (24 : Int32)), .val (.long v64), .second] [(.int (24 : Int32)), (.ref b)]))
  refine own_st (fun u_ k_ => XS.iconst X0.here hx rfl (hb hby own_d_method_4_56) k_) ?_
  show own_Go p e below _ (s₁.setTop (mkF m 57 #[.val (.ref b), .val (.int (24 : Int32)), .val (.long v64), .second] [(.int (4 : Int32)), (.int (24 : Int32)), (.ref b)]))
  refine own_st (fun u_ k_ => XS.iadd X0.here hx rfl (hb hby own_d_method_4_57) rfl k_) ?_
  show own_Go p e below _ (s₁.setTop (mkF m 58 #[.val (.ref b), .val (.int (24 : Int32)), .val (.long v64), .second] [(.int (28 : Int32)), (.ref b)]))
  obtain ⟨cl125, Ar125, q125, S125, N125, H125, G125⟩ := id V
  have hi125 : ¬ ((28 : Int32) < 0 ∨ cl125.slots.size ≤ ((28 : Int32)).toNatClampNeg) := inb_of S125 ⟨by decide, by decide⟩
  have ha125 : cl125.slots[((28 : Int32)).toNatClampNeg]? = some (.int ((((v64.toUInt64 >>> ((24 : Int32) &&& 0x3f).toInt64.toUInt64).toInt64).toInt32).toInt8.toInt32)) := H125.at hi125 f4
  refine own_st (X0.baloadBytes hx (j := (28 : Int32)) (v := (.int ((((v64.toUInt64 >>> ((24 : Int32) &&& 0x3f).toInt64.toUInt64).toInt64).toInt32).toInt8.toInt32))) (by rw [e0]; exact Ar125.1) (State.isArrayOf_alike hZ.alike Ar125.2.1) Ar125.2.2 hi125 ha125 (g := (mkF m 58 #[.val (.ref b), .val (.int (24 : Int32)), .val (.long v64), .second] [(.int (28 : Int32)), (.ref b)])) rfl rfl (hb hby own_d_method_4_58)) ?_
  show own_Go p e below _ (s₁.setTop (mkF m 59 #[.val (.ref b), .val (.int (24 : Int32)), .val (.long v64), .second] [(.int ((((v64.toUInt64 >>> ((24 : Int32) &&& 0x3f).toInt64.toUInt64).toInt64).toInt32).toInt8.toInt32))]))
  refine own_st (fun u_ k_ => XS.lloadN X0.here hx rfl (hb hby own_d_method_4_59) rfl k_) ?_
  show own_Go p e below _ (s₁.setTop (mkF m 60 #[.val (.ref b), .val (.int (24 : Int32)), .val (.long v64), .second] [(.long v64), (.int ((((v64.toUInt64 >>> ((24 : Int32) &&& 0x3f).toInt64.toUInt64).toInt64).toInt32).toInt8.toInt32))]))
  refine own_st (fun u_ k_ => XS.bipush X0.here hx rfl (hb hby own_d_method_4_60) k_) ?_
  show own_Go p e below _ (s₁.setTop (mkF m 62 #[.val (.ref b), .val (.int (24 : Int32)), .val (.long v64), .second] [(.int (24 : Int32)), (.long v64), (.int ((((v64.toUInt64 >>> ((24 : Int32) &&& 0x3f).toInt64.toUInt64).toInt64).toInt32).toInt8.toInt32))]))
  refine own_st (fun u_ k_ => XS.lushr X0.here hx rfl (hb hby own_d_method_4_62) rfl k_) ?_
  show own_Go p e below _ (s₁.setTop (mkF m 63 #[.val (.ref b), .val (.int (24 : Int32)), .val (.long v64), .second] [(.long ((v64.toUInt64 >>> ((24 : Int32) &&& 0x3f).toInt64.toUInt64).toInt64)), (.int ((((v64.toUInt64 >>> ((24 : Int32) &&& 0x3f).toInt64.toUInt64).toInt64).toInt32).toInt8.toInt32))]))
  refine own_st (fun u_ k_ => XS.l2i X0.here hx rfl (hb hby own_d_method_4_63) rfl k_) ?_
  show own_Go p e below _ (s₁.setTop (mkF m 64 #[.val (.ref b), .val (.int (24 : Int32)), .val (.long v64), .second] [(.int (((v64.toUInt64 >>> ((24 : Int32) &&& 0x3f).toInt64.toUInt64).toInt64).toInt32)), (.int ((((v64.toUInt64 >>> ((24 : Int32) &&& 0x3f).toInt64.toUInt64).toInt64).toInt32).toInt8.toInt32))]))
  refine own_st (fun u_ k_ => XS.i2b X0.here hx rfl (hb hby own_d_method_4_64) rfl k_) ?_
  show own_Go p e below _ (s₁.setTop (mkF m 65 #[.val (.ref b), .val (.int (24 : Int32)), .val (.long v64), .second] [(.int ((((v64.toUInt64 >>> ((24 : Int32) &&& 0x3f).toInt64.toUInt64).toInt64).toInt32).toInt8.toInt32)), (.int ((((v64.toUInt64 >>> ((24 : Int32) &&& 0x3f).toInt64.toUInt64).toInt64).toInt32).toInt8.toInt32))]))
  refine own_st (fun u_ k_ => XS.icmpNo X0.here hx rfl (hb hby own_d_method_4_65) rfl (XT.ii_ne_f rfl) k_) ?_
  show own_Go p e below _ (s₁.setTop (mkF m 68 #[.val (.ref b), .val (.int (24 : Int32)), .val (.long v64), .second] []))
  refine own_st (fun u_ k_ => XS.aloadN X0.here hx rfl (hb hby own_d_method_4_68) rfl rfl k_) ?_
  show own_Go p e below _ (s₁.setTop (mkF m 69 #[.val (.ref b), .val (.int (24 : Int32)), .val (.long v64), .second] [(.ref b)]))
  refine own_st (fun u_ k_ => XS.iloadN X0.here hx rfl (hb hby own_d_method_4_69) rfl k_) ?_
  show own_Go p e below _ (s₁.setTop (mkF m 70 #[.val (.ref b), .val (.int (24 : Int32)), .val (.long v64), .second] [(.int (24 : Int32)), (.ref b)]))
  refine own_st (fun u_ k_ => XS.iconst X0.here hx rfl (hb hby own_d_method_4_70) k_) ?_
  show own_Go p e below _ (s₁.setTop (mkF m 71 #[.val (.ref b), .val (.int (24 : Int32)), .val (.long v64), .second] [(.int (5 : Int32)), (.int (24 : Int32)), (.ref b)]))
  refine own_st (fun u_ k_ => XS.iadd X0.here hx rfl (hb hby own_d_method_4_71) rfl k_) ?_
  show own_Go p e below _ (s₁.setTop (mkF m 72 #[.val (.ref b), .val (.int (24 : Int32)), .val (.long v64), .second] [(.int (29 : Int32)), (.ref b)]))
  obtain ⟨cl126, Ar126, q126, S126, N126, H126, G126⟩ := id V
  have hi126 : ¬ ((29 : Int32) < 0 ∨ cl126.slots.size ≤ ((29 : Int32)).toNatClampNeg) := inb_of S126 ⟨by decide, by decide⟩
  have ha126 : cl126.slots[((29 : Int32)).toNatClampNeg]? = some (.int ((((v64.toUInt64 >>> ((16 : Int32) &&& 0x3f).toInt64.toUInt64).toInt64).toInt32).toInt8.toInt32)) := H126.at hi126 f5
  refine own_st (X0.baloadBytes hx (j := (29 : Int32)) (v := (.int ((((v64.toUInt64 >>> ((16 : Int32) &&& 0x3f).toInt64.toUInt64).toInt64).toInt32).toInt8.toInt32))) (by rw [e0]; exact Ar126.1) (State.isArrayOf_alike hZ.alike Ar126.2.1) Ar126.2.2 hi126 ha126 (g := (mkF m 72 #[.val (.ref b), .val (.int (24 : Int32)), .val (.long v64), .second] [(.int (29 : Int32)), (.ref b)])) rfl rfl (hb hby own_d_method_4_72)) ?_
  show own_Go p e below _ (s₁.setTop (mkF m 73 #[.val (.ref b), .val (.int (24 : Int32)), .val (.long v64), .second] [(.int ((((v64.toUInt64 >>> ((16 : Int32) &&& 0x3f).toInt64.toUInt64).toInt64).toInt32).toInt8.toInt32))]))
  refine own_st (fun u_ k_ => XS.lloadN X0.here hx rfl (hb hby own_d_method_4_73) rfl k_) ?_
  show own_Go p e below _ (s₁.setTop (mkF m 74 #[.val (.ref b), .val (.int (24 : Int32)), .val (.long v64), .second] [(.long v64), (.int ((((v64.toUInt64 >>> ((16 : Int32) &&& 0x3f).toInt64.toUInt64).toInt64).toInt32).toInt8.toInt32))]))
  refine own_st (fun u_ k_ => XS.bipush X0.here hx rfl (hb hby own_d_method_4_74) k_) ?_
  show own_Go p e below _ (s₁.setTop (mkF m 76 #[.val (.ref b), .val (.int (24 : Int32)), .val (.long v64), .second] [(.int (16 : Int32)), (.long v64), (.int ((((v64.toUInt64 >>> ((16 : Int32) &&& 0x3f).toInt64.toUInt64).toInt64).toInt32).toInt8.toInt32))]))
  refine own_st (fun u_ k_ => XS.lushr X0.here hx rfl (hb hby own_d_method_4_76) rfl k_) ?_
  show own_Go p e below _ (s₁.setTop (mkF m 77 #[.val (.ref b), .val (.int (24 : Int32)), .val (.long v64), .second] [(.long ((v64.toUInt64 >>> ((16 : Int32) &&& 0x3f).toInt64.toUInt64).toInt64)), (.int ((((v64.toUInt64 >>> ((16 : Int32) &&& 0x3f).toInt64.toUInt64).toInt64).toInt32).toInt8.toInt32))]))
  refine own_st (fun u_ k_ => XS.l2i X0.here hx rfl (hb hby own_d_method_4_77) rfl k_) ?_
  show own_Go p e below _ (s₁.setTop (mkF m 78 #[.val (.ref b), .val (.int (24 : Int32)), .val (.long v64), .second] [(.int (((v64.toUInt64 >>> ((16 : Int32) &&& 0x3f).toInt64.toUInt64).toInt64).toInt32)), (.int ((((v64.toUInt64 >>> ((16 : Int32) &&& 0x3f).toInt64.toUInt64).toInt64).toInt32).toInt8.toInt32))]))
  refine own_st (fun u_ k_ => XS.i2b X0.here hx rfl (hb hby own_d_method_4_78) rfl k_) ?_
  show own_Go p e below _ (s₁.setTop (mkF m 79 #[.val (.ref b), .val (.int (24 : Int32)), .val (.long v64), .second] [(.int ((((v64.toUInt64 >>> ((16 : Int32) &&& 0x3f).toInt64.toUInt64).toInt64).toInt32).toInt8.toInt32)), (.int ((((v64.toUInt64 >>> ((16 : Int32) &&& 0x3f).toInt64.toUInt64).toInt64).toInt32).toInt8.toInt32))]))
  refine own_st (fun u_ k_ => XS.icmpNo X0.here hx rfl (hb hby own_d_method_4_79) rfl (XT.ii_ne_f rfl) k_) ?_
  show own_Go p e below _ (s₁.setTop (mkF m 82 #[.val (.ref b), .val (.int (24 : Int32)), .val (.long v64), .second] []))
  refine own_st (fun u_ k_ => XS.aloadN X0.here hx rfl (hb hby own_d_method_4_82) rfl rfl k_) ?_
  show own_Go p e below _ (s₁.setTop (mkF m 83 #[.val (.ref b), .val (.int (24 : Int32)), .val (.long v64), .second] [(.ref b)]))
  refine own_st (fun u_ k_ => XS.iloadN X0.here hx rfl (hb hby own_d_method_4_83) rfl k_) ?_
  show own_Go p e below _ (s₁.setTop (mkF m 84 #[.val (.ref b), .val (.int (24 : Int32)), .val (.long v64), .second] [(.int (24 : Int32)), (.ref b)]))
  refine own_st (fun u_ k_ => XS.bipush X0.here hx rfl (hb hby own_d_method_4_84) k_) ?_
  show own_Go p e below _ (s₁.setTop (mkF m 86 #[.val (.ref b), .val (.int (24 : Int32)), .val (.long v64), .second] [(.int (6 : Int32)), (.int (24 : Int32)), (.ref b)]))
  refine own_st (fun u_ k_ => XS.iadd X0.here hx rfl (hb hby own_d_method_4_86) rfl k_) ?_
  show own_Go p e below _ (s₁.setTop (mkF m 87 #[.val (.ref b), .val (.int (24 : Int32)), .val (.long v64), .second] [(.int (30 : Int32)), (.ref b)]))
  obtain ⟨cl127, Ar127, q127, S127, N127, H127, G127⟩ := id V
  have hi127 : ¬ ((30 : Int32) < 0 ∨ cl127.slots.size ≤ ((30 : Int32)).toNatClampNeg) := inb_of S127 ⟨by decide, by decide⟩
  have ha127 : cl127.slots[((30 : Int32)).toNatClampNeg]? = some (.int ((((v64.toUInt64 >>> ((8 : Int32) &&& 0x3f).toInt64.toUInt64).toInt64).toInt32).toInt8.toInt32)) := H127.at hi127 f6
  refine own_st (X0.baloadBytes hx (j := (30 : Int32)) (v := (.int ((((v64.toUInt64 >>> ((8 : Int32) &&& 0x3f).toInt64.toUInt64).toInt64).toInt32).toInt8.toInt32))) (by rw [e0]; exact Ar127.1) (State.isArrayOf_alike hZ.alike Ar127.2.1) Ar127.2.2 hi127 ha127 (g := (mkF m 87 #[.val (.ref b), .val (.int (24 : Int32)), .val (.long v64), .second] [(.int (30 : Int32)), (.ref b)])) rfl rfl (hb hby own_d_method_4_87)) ?_
  show own_Go p e below _ (s₁.setTop (mkF m 88 #[.val (.ref b), .val (.int (24 : Int32)), .val (.long v64), .second] [(.int ((((v64.toUInt64 >>> ((8 : Int32) &&& 0x3f).toInt64.toUInt64).toInt64).toInt32).toInt8.toInt32))]))
  refine own_st (fun u_ k_ => XS.lloadN X0.here hx rfl (hb hby own_d_method_4_88) rfl k_) ?_
  show own_Go p e below _ (s₁.setTop (mkF m 89 #[.val (.ref b), .val (.int (24 : Int32)), .val (.long v64), .second] [(.long v64), (.int ((((v64.toUInt64 >>> ((8 : Int32) &&& 0x3f).toInt64.toUInt64).toInt64).toInt32).toInt8.toInt32))]))
  refine own_st (fun u_ k_ => XS.bipush X0.here hx rfl (hb hby own_d_method_4_89) k_) ?_
  show own_Go p e below _ (s₁.setTop (mkF m 91 #[.val (.ref b), .val (.int (24 : Int32)), .val (.long v64), .second] [(.int (8 : Int32)), (.long v64), (.int ((((v64.toUInt64 >>> ((8 : Int32) &&& 0x3f).toInt64.toUInt64).toInt64).toInt32).toInt8.toInt32))]))
  refine own_st (fun u_ k_ => XS.lushr X0.here hx rfl (hb hby own_d_method_4_91) rfl k_) ?_
  show own_Go p e below _ (s₁.setTop (mkF m 92 #[.val (.ref b), .val (.int (24 : Int32)), .val (.long v64), .second] [(.long ((v64.toUInt64 >>> ((8 : Int32) &&& 0x3f).toInt64.toUInt64).toInt64)), (.int ((((v64.toUInt64 >>> ((8 : Int32) &&& 0x3f).toInt64.toUInt64).toInt64).toInt32).toInt8.toInt32))]))
  refine own_st (fun u_ k_ => XS.l2i X0.here hx rfl (hb hby own_d_method_4_92) rfl k_) ?_
  show own_Go p e below _ (s₁.setTop (mkF m 93 #[.val (.ref b), .val (.int (24 : Int32)), .val (.long v64), .second] [(.int (((v64.toUInt64 >>> ((8 : Int32) &&& 0x3f).toInt64.toUInt64).toInt64).toInt32)), (.int ((((v64.toUInt64 >>> ((8 : Int32) &&& 0x3f).toInt64.toUInt64).toInt64).toInt32).toInt8.toInt32))]))
  refine own_st (fun u_ k_ => XS.i2b X0.here hx rfl (hb hby own_d_method_4_93) rfl k_) ?_
  show own_Go p e below _ (s₁.setTop (mkF m 94 #[.val (.ref b), .val (.int (24 : Int32)), .val (.long v64), .second] [(.int ((((v64.toUInt64 >>> ((8 : Int32) &&& 0x3f).toInt64.toUInt64).toInt64).toInt32).toInt8.toInt32)), (.int ((((v64.toUInt64 >>> ((8 : Int32) &&& 0x3f).toInt64.toUInt64).toInt64).toInt32).toInt8.toInt32))]))
  refine own_st (fun u_ k_ => XS.icmpNo X0.here hx rfl (hb hby own_d_method_4_94) rfl (XT.ii_ne_f rfl) k_) ?_
  show own_Go p e below _ (s₁.setTop (mkF m 97 #[.val (.ref b), .val (.int (24 : Int32)), .val (.long v64), .second] []))
  refine own_st (fun u_ k_ => XS.aloadN X0.here hx rfl (hb hby own_d_method_4_97) rfl rfl k_) ?_
  show own_Go p e below _ (s₁.setTop (mkF m 98 #[.val (.ref b), .val (.int (24 : Int32)), .val (.long v64), .second] [(.ref b)]))
  refine own_st (fun u_ k_ => XS.iloadN X0.here hx rfl (hb hby own_d_method_4_98) rfl k_) ?_
  show own_Go p e below _ (s₁.setTop (mkF m 99 #[.val (.ref b), .val (.int (24 : Int32)), .val (.long v64), .second] [(.int (24 : Int32)), (.ref b)]))
  refine own_st (fun u_ k_ => XS.bipush X0.here hx rfl (hb hby own_d_method_4_99) k_) ?_
  show own_Go p e below _ (s₁.setTop (mkF m 101 #[.val (.ref b), .val (.int (24 : Int32)), .val (.long v64), .second] [(.int (7 : Int32)), (.int (24 : Int32)), (.ref b)]))
  refine own_st (fun u_ k_ => XS.iadd X0.here hx rfl (hb hby own_d_method_4_101) rfl k_) ?_
  show own_Go p e below _ (s₁.setTop (mkF m 102 #[.val (.ref b), .val (.int (24 : Int32)), .val (.long v64), .second] [(.int (31 : Int32)), (.ref b)]))
  obtain ⟨cl128, Ar128, q128, S128, N128, H128, G128⟩ := id V
  have hi128 : ¬ ((31 : Int32) < 0 ∨ cl128.slots.size ≤ ((31 : Int32)).toNatClampNeg) := inb_of S128 ⟨by decide, by decide⟩
  have ha128 : cl128.slots[((31 : Int32)).toNatClampNeg]? = some (.int ((v64.toInt32).toInt8.toInt32)) := H128.at hi128 f7
  refine own_st (X0.baloadBytes hx (j := (31 : Int32)) (v := (.int ((v64.toInt32).toInt8.toInt32))) (by rw [e0]; exact Ar128.1) (State.isArrayOf_alike hZ.alike Ar128.2.1) Ar128.2.2 hi128 ha128 (g := (mkF m 102 #[.val (.ref b), .val (.int (24 : Int32)), .val (.long v64), .second] [(.int (31 : Int32)), (.ref b)])) rfl rfl (hb hby own_d_method_4_102)) ?_
  show own_Go p e below _ (s₁.setTop (mkF m 103 #[.val (.ref b), .val (.int (24 : Int32)), .val (.long v64), .second] [(.int ((v64.toInt32).toInt8.toInt32))]))
  refine own_st (fun u_ k_ => XS.lloadN X0.here hx rfl (hb hby own_d_method_4_103) rfl k_) ?_
  show own_Go p e below _ (s₁.setTop (mkF m 104 #[.val (.ref b), .val (.int (24 : Int32)), .val (.long v64), .second] [(.long v64), (.int ((v64.toInt32).toInt8.toInt32))]))
  refine own_st (fun u_ k_ => XS.l2i X0.here hx rfl (hb hby own_d_method_4_104) rfl k_) ?_
  show own_Go p e below _ (s₁.setTop (mkF m 105 #[.val (.ref b), .val (.int (24 : Int32)), .val (.long v64), .second] [(.int (v64.toInt32)), (.int ((v64.toInt32).toInt8.toInt32))]))
  refine own_st (fun u_ k_ => XS.i2b X0.here hx rfl (hb hby own_d_method_4_105) rfl k_) ?_
  show own_Go p e below _ (s₁.setTop (mkF m 106 #[.val (.ref b), .val (.int (24 : Int32)), .val (.long v64), .second] [(.int ((v64.toInt32).toInt8.toInt32)), (.int ((v64.toInt32).toInt8.toInt32))]))
  refine own_st (fun u_ k_ => XS.icmpNo X0.here hx rfl (hb hby own_d_method_4_106) rfl (XT.ii_ne_f rfl) k_) ?_
  show own_Go p e below _ (s₁.setTop (mkF m 109 #[.val (.ref b), .val (.int (24 : Int32)), .val (.long v64), .second] []))
  refine own_st (fun u_ k_ => XS.iconst X0.here hx rfl (hb hby own_d_method_4_109) k_) ?_
  show own_Go p e below _ (s₁.setTop (mkF m 110 #[.val (.ref b), .val (.int (24 : Int32)), .val (.long v64), .second] [(.int (1 : Int32))]))
  refine own_st (fun u_ k_ => XS.goto X0.here hx rfl (pc0 := 110) (pc' := 114) rfl (hb hby own_d_method_4_110) (by decide) (by decide) k_) ?_
  show own_Go p e below _ (s₁.setTop (mkF m 114 #[.val (.ref b), .val (.int (24 : Int32)), .val (.long v64), .second] [(.int (1 : Int32))]))
  exact own_retX X0 hx hlk hret rfl (Or.inl ⟨rfl, by simp, _, rfl⟩) (hb hby own_d_method_4_114) (by decide) (by decide) (show QrmE24 Z we b kb vs v64 h0 n0 (some (.int (1 : Int32))) s₁.heap _ from (by rw [e0]; exact ⟨rfl, N0, rfl⟩))
theorem own_d_prog_14_4_0 : decode prog_14_method_4_code 0 = .ok (.lconst 0, 1) := by decide +kernel
theorem own_d_prog_14_4_1 : decode prog_14_method_4_code 1 = .ok (.lstore_n 3, 1) := by decide +kernel
theorem own_d_prog_14_4_2 : decode prog_14_method_4_code 2 = .ok (.iload_n 1, 1) := by decide +kernel
theorem own_d_prog_14_4_3 : decode prog_14_method_4_code 3 = .ok (.istore 5, 2) := by decide +kernel
theorem own_d_prog_14_4_5 : decode prog_14_method_4_code 5 = .ok (.iload 5, 2) := by decide +kernel
theorem own_d_prog_14_4_7 : decode prog_14_method_4_code 7 = .ok (.iload_n 1, 1) := by decide +kernel
theorem own_d_prog_14_4_8 : decode prog_14_method_4_code 8 = .ok (.iload_n 2, 1) := by decide +kernel
theorem own_d_prog_14_4_9 : decode prog_14_method_4_code 9 = .ok (.iadd, 1) := by decide +kernel
theorem own_d_prog_14_4_10 : decode prog_14_method_4_code 10 = .ok (.if_icmp .ge 24, 3) := by decide +kernel
theorem own_d_prog_14_4_13 : decode prog_14_method_4_code 13 = .ok (.lload_n 3, 1) := by decide +kernel
theorem own_d_prog_14_4_14 : decode prog_14_method_4_code 14 = .ok (.bipush 8, 2) := by decide +kernel
theorem own_d_prog_14_4_16 : decode prog_14_method_4_code 16 = .ok (.lshl, 1) := by decide +kernel
theorem own_d_prog_14_4_17 : decode prog_14_method_4_code 17 = .ok (.aload_n 0, 1) := by decide +kernel
theorem own_d_prog_14_4_18 : decode prog_14_method_4_code 18 = .ok (.iload 5, 2) := by decide +kernel
theorem own_d_prog_14_4_20 : decode prog_14_method_4_code 20 = .ok (.baload, 1) := by decide +kernel
theorem own_d_prog_14_4_21 : decode prog_14_method_4_code 21 = .ok (.sipush 255, 3) := by decide +kernel
theorem own_d_prog_14_4_24 : decode prog_14_method_4_code 24 = .ok (.iand, 1) := by decide +kernel
theorem own_d_prog_14_4_25 : decode prog_14_method_4_code 25 = .ok (.i2l, 1) := by decide +kernel
theorem own_d_prog_14_4_26 : decode prog_14_method_4_code 26 = .ok (.lor, 1) := by decide +kernel
theorem own_d_prog_14_4_27 : decode prog_14_method_4_code 27 = .ok (.lstore_n 3, 1) := by decide +kernel
theorem own_d_prog_14_4_28 : decode prog_14_method_4_code 28 = .ok (.iinc 5 1, 3) := by decide +kernel
theorem own_d_prog_14_4_31 : decode prog_14_method_4_code 31 = .ok (.goto (-26), 3) := by decide +kernel
theorem own_d_prog_14_4_34 : decode prog_14_method_4_code 34 = .ok (.lload_n 3, 1) := by decide +kernel
theorem own_d_prog_14_4_35 : decode prog_14_method_4_code 35 = .ok (.lreturn, 1) := by decide +kernel
abbrev own_y_191 : MethodName := ⟨"com/example/tasdik/tasdik/core/appattest/AuthenticatorData", "bigEndian", "([BII)J"⟩
theorem own_pn_192 : plainName "com/example/tasdik/tasdik/core/appattest/AuthenticatorData" = true := by first | (simp [plainName, overriddenIn]; done) | decide +kernel
theorem own_ef_rmBE (m : MethodId) (b : Addr) (n : Int32)  : entryFrame m #[(.ref b), (.int (33 : Int32)), (.int (4 : Int32))] 6 = mkF m 0 #[.val (.ref b), .val (.int (33 : Int32)), .val (.int (4 : Int32)), .unset, .unset, .unset] [] := by first | (simp [entryFrame, mkF, argsToLocals, Value.category, maxLocals]; done) | rfl
def QrmBE (Z : State) (we : Addr) (b : Addr) (kb : ClassId) (n : Int32) (vs : List Value) (w0 : Int32) (w1 : Int32) (w2 : Int32) (w3 : Int32) (h0 : Heap) (n0 : Nat) (v : Option Value) (h : Heap) (L : List Loc) : Prop := v = some (.long (((((((((0 : Int64) <<< ((8 : Int32) &&& 0x3f).toInt64) ||| ((w0 &&& (255 : Int32)).toInt64)) <<< ((8 : Int32) &&& 0x3f).toInt64) ||| ((w1 &&& (255 : Int32)).toInt64)) <<< ((8 : Int32) &&& 0x3f).toInt64) ||| ((w2 &&& (255 : Int32)).toInt64)) <<< ((8 : Int32) &&& 0x3f).toInt64) ||| ((w3 &&& (255 : Int32)).toInt64))) ∧ Fr n0 L ∧ h = h0
set_option maxRecDepth 65536 in
set_option maxHeartbeats 40000000 in
theorem rmBE (l : Launch) (Z : State) (a0 : Array Value) (hw : own_H a0 Z) (ws : List Jvm.Cond) (we : Addr) (hS : own_S Z we) (b : Addr) (kb : ClassId) (n : Int32) (vs : List Value) (w0 : Int32) (w1 : Int32) (w2 : Int32) (w3 : Int32) (h0 : Heap) (n0 : Nat) (O0 : Old Z n0 h0) (V : Arv Z h0 b kb .byte n vs (.int (0 : Int32))) (hn : ¬ n < (37 : Int32)) (e_0 : vs.getD 33 (.int (0 : Int32)) = .int w0) (e_1 : vs.getD 34 (.int (0 : Int32)) = .int w1) (e_2 : vs.getD 35 (.int (0 : Int32)) = .int w2) (e_3 : vs.getD 36 (.int (0 : Int32)) = .int w3) :
    own_Met l own_y_191 prog_14_method_4_code 6 (some .long) ws ({ frames := 0, cells := 0, slots := 0, locals := 0 } : Room) Z h0 #[(.ref b), (.int (33 : Int32)), (.int (4 : Int32))] (QrmBE Z we b kb n vs w0 w1 w2 w3 h0 n0) := by
  refine own_body (plainFor_of_name own_pn_192) ?_
  intro p e s m below meth c s₁ hx hby hml hown hnm hret hlk hZ e0 X0
  have N0 := Fr.nil n0
  refine own_st (fun u_ k_ => castTop (own_ef_rmBE m b n) k_) ?_
  show own_Go p e below _ (s₁.setTop (mkF m 0 #[.val (.ref b), .val (.int (33 : Int32)), .val (.int (4 : Int32)), .unset, .unset, .unset] []))
  refine own_st (fun u_ k_ => XS.lconst X0.here hx rfl (hb hby own_d_prog_14_4_0) k_) ?_
  show own_Go p e below _ (s₁.setTop (mkF m 1 #[.val (.ref b), .val (.int (33 : Int32)), .val (.int (4 : Int32)), .unset, .unset, .unset] [(.long (0 : Int64))]))
  refine own_st (fun u_ k_ => XS.lstoreN X0.here hx rfl (hb hby own_d_prog_14_4_1) rfl (l' := #[.val (.ref b), .val (.int (33 : Int32)), .val (.int (4 : Int32)), .val (.long (0 : Int64)), .second, .unset]) rfl k_) ?_
  show own_Go p e below _ (s₁.setTop (mkF m 2 #[.val (.ref b), .val (.int (33 : Int32)), .val (.int (4 : Int32)), .val (.long (0 : Int64)), .second, .unset] []))
  refine own_st (fun u_ k_ => XS.iloadN X0.here hx rfl (hb hby own_d_prog_14_4_2) rfl k_) ?_
  show own_Go p e below _ (s₁.setTop (mkF m 3 #[.val (.ref b), .val (.int (33 : Int32)), .val (.int (4 : Int32)), .val (.long (0 : Int64)), .second, .unset] [(.int (33 : Int32))]))
  refine own_st (fun u_ k_ => XS.istore X0.here hx rfl (hb hby own_d_prog_14_4_3) rfl (l' := #[.val (.ref b), .val (.int (33 : Int32)), .val (.int (4 : Int32)), .val (.long (0 : Int64)), .second, .val (.int (33 : Int32))]) rfl k_) ?_
  show own_Go p e below _ (s₁.setTop (mkF m 5 #[.val (.ref b), .val (.int (33 : Int32)), .val (.int (4 : Int32)), .val (.long (0 : Int64)), .second, .val (.int (33 : Int32))] []))
  refine own_st (fun u_ k_ => XS.iload X0.here hx rfl (hb hby own_d_prog_14_4_5) rfl k_) ?_
  show own_Go p e below _ (s₁.setTop (mkF m 7 #[.val (.ref b), .val (.int (33 : Int32)), .val (.int (4 : Int32)), .val (.long (0 : Int64)), .second, .val (.int (33 : Int32))] [(.int (33 : Int32))]))
  refine own_st (fun u_ k_ => XS.iloadN X0.here hx rfl (hb hby own_d_prog_14_4_7) rfl k_) ?_
  show own_Go p e below _ (s₁.setTop (mkF m 8 #[.val (.ref b), .val (.int (33 : Int32)), .val (.int (4 : Int32)), .val (.long (0 : Int64)), .second, .val (.int (33 : Int32))] [(.int (33 : Int32)), (.int (33 : Int32))]))
  refine own_st (fun u_ k_ => XS.iloadN X0.here hx rfl (hb hby own_d_prog_14_4_8) rfl k_) ?_
  show own_Go p e below _ (s₁.setTop (mkF m 9 #[.val (.ref b), .val (.int (33 : Int32)), .val (.int (4 : Int32)), .val (.long (0 : Int64)), .second, .val (.int (33 : Int32))] [(.int (4 : Int32)), (.int (33 : Int32)), (.int (33 : Int32))]))
  refine own_st (fun u_ k_ => XS.iadd X0.here hx rfl (hb hby own_d_prog_14_4_9) rfl k_) ?_
  show own_Go p e below _ (s₁.setTop (mkF m 10 #[.val (.ref b), .val (.int (33 : Int32)), .val (.int (4 : Int32)), .val (.long (0 : Int64)), .second, .val (.int (33 : Int32))] [(.int (37 : Int32)), (.int (33 : Int32))]))
  refine own_st (fun u_ k_ => XS.icmpNo X0.here hx rfl (hb hby own_d_prog_14_4_10) rfl (XT.ii_ge_f (by decide)) k_) ?_
  show own_Go p e below _ (s₁.setTop (mkF m 13 #[.val (.ref b), .val (.int (33 : Int32)), .val (.int (4 : Int32)), .val (.long (0 : Int64)), .second, .val (.int (33 : Int32))] []))
  refine own_st (fun u_ k_ => XS.lloadN X0.here hx rfl (hb hby own_d_prog_14_4_13) rfl k_) ?_
  show own_Go p e below _ (s₁.setTop (mkF m 14 #[.val (.ref b), .val (.int (33 : Int32)), .val (.int (4 : Int32)), .val (.long (0 : Int64)), .second, .val (.int (33 : Int32))] [(.long (0 : Int64))]))
  refine own_st (fun u_ k_ => XS.bipush X0.here hx rfl (hb hby own_d_prog_14_4_14) k_) ?_
  show own_Go p e below _ (s₁.setTop (mkF m 16 #[.val (.ref b), .val (.int (33 : Int32)), .val (.int (4 : Int32)), .val (.long (0 : Int64)), .second, .val (.int (33 : Int32))] [(.int (8 : Int32)), (.long (0 : Int64))]))
  refine own_st (fun u_ k_ => XS.lshl X0.here hx rfl (hb hby own_d_prog_14_4_16) rfl k_) ?_
  show own_Go p e below _ (s₁.setTop (mkF m 17 #[.val (.ref b), .val (.int (33 : Int32)), .val (.int (4 : Int32)), .val (.long (0 : Int64)), .second, .val (.int (33 : Int32))] [(.long ((0 : Int64) <<< ((8 : Int32) &&& 0x3f).toInt64))]))
  refine own_st (fun u_ k_ => XS.aloadN X0.here hx rfl (hb hby own_d_prog_14_4_17) rfl rfl k_) ?_
  show own_Go p e below _ (s₁.setTop (mkF m 18 #[.val (.ref b), .val (.int (33 : Int32)), .val (.int (4 : Int32)), .val (.long (0 : Int64)), .second, .val (.int (33 : Int32))] [(.ref b), (.long ((0 : Int64) <<< ((8 : Int32) &&& 0x3f).toInt64))]))
  refine own_st (fun u_ k_ => XS.iload X0.here hx rfl (hb hby own_d_prog_14_4_18) rfl k_) ?_
  show own_Go p e below _ (s₁.setTop (mkF m 20 #[.val (.ref b), .val (.int (33 : Int32)), .val (.int (4 : Int32)), .val (.long (0 : Int64)), .second, .val (.int (33 : Int32))] [(.int (33 : Int32)), (.ref b), (.long ((0 : Int64) <<< ((8 : Int32) &&& 0x3f).toInt64))]))
  obtain ⟨cl129, Ar129, q129, S129, N129, H129, G129⟩ := id V
  have hi129 : ¬ ((33 : Int32) < 0 ∨ cl129.slots.size ≤ ((33 : Int32)).toNatClampNeg) := inb_of S129 ⟨by decide, own_lt37 hn (by decide)⟩
  have ha129 : cl129.slots[((33 : Int32)).toNatClampNeg]? = some (.int w0) := H129.at hi129 e_0
  refine own_st (X0.baloadBytes hx (j := (33 : Int32)) (v := (.int w0)) (by rw [e0]; exact Ar129.1) (State.isArrayOf_alike hZ.alike Ar129.2.1) Ar129.2.2 hi129 ha129 (g := (mkF m 20 #[.val (.ref b), .val (.int (33 : Int32)), .val (.int (4 : Int32)), .val (.long (0 : Int64)), .second, .val (.int (33 : Int32))] [(.int (33 : Int32)), (.ref b), (.long ((0 : Int64) <<< ((8 : Int32) &&& 0x3f).toInt64))])) rfl rfl (hb hby own_d_prog_14_4_20)) ?_
  show own_Go p e below _ (s₁.setTop (mkF m 21 #[.val (.ref b), .val (.int (33 : Int32)), .val (.int (4 : Int32)), .val (.long (0 : Int64)), .second, .val (.int (33 : Int32))] [(.int w0), (.long ((0 : Int64) <<< ((8 : Int32) &&& 0x3f).toInt64))]))
  refine own_st (fun u_ k_ => XS.sipush X0.here hx rfl (hb hby own_d_prog_14_4_21) k_) ?_
  show own_Go p e below _ (s₁.setTop (mkF m 24 #[.val (.ref b), .val (.int (33 : Int32)), .val (.int (4 : Int32)), .val (.long (0 : Int64)), .second, .val (.int (33 : Int32))] [(.int (255 : Int32)), (.int w0), (.long ((0 : Int64) <<< ((8 : Int32) &&& 0x3f).toInt64))]))
  refine own_st (fun u_ k_ => XS.iand X0.here hx rfl (hb hby own_d_prog_14_4_24) rfl k_) ?_
  show own_Go p e below _ (s₁.setTop (mkF m 25 #[.val (.ref b), .val (.int (33 : Int32)), .val (.int (4 : Int32)), .val (.long (0 : Int64)), .second, .val (.int (33 : Int32))] [(.int (w0 &&& (255 : Int32))), (.long ((0 : Int64) <<< ((8 : Int32) &&& 0x3f).toInt64))]))
  refine own_st (fun u_ k_ => XS.i2l X0.here hx rfl (hb hby own_d_prog_14_4_25) rfl k_) ?_
  show own_Go p e below _ (s₁.setTop (mkF m 26 #[.val (.ref b), .val (.int (33 : Int32)), .val (.int (4 : Int32)), .val (.long (0 : Int64)), .second, .val (.int (33 : Int32))] [(.long ((w0 &&& (255 : Int32)).toInt64)), (.long ((0 : Int64) <<< ((8 : Int32) &&& 0x3f).toInt64))]))
  refine own_st (fun u_ k_ => XS.lor X0.here hx rfl (hb hby own_d_prog_14_4_26) rfl k_) ?_
  show own_Go p e below _ (s₁.setTop (mkF m 27 #[.val (.ref b), .val (.int (33 : Int32)), .val (.int (4 : Int32)), .val (.long (0 : Int64)), .second, .val (.int (33 : Int32))] [(.long (((0 : Int64) <<< ((8 : Int32) &&& 0x3f).toInt64) ||| ((w0 &&& (255 : Int32)).toInt64)))]))
  refine own_st (fun u_ k_ => XS.lstoreN X0.here hx rfl (hb hby own_d_prog_14_4_27) rfl (l' := #[.val (.ref b), .val (.int (33 : Int32)), .val (.int (4 : Int32)), .val (.long (((0 : Int64) <<< ((8 : Int32) &&& 0x3f).toInt64) ||| ((w0 &&& (255 : Int32)).toInt64))), .second, .val (.int (33 : Int32))]) rfl k_) ?_
  show own_Go p e below _ (s₁.setTop (mkF m 28 #[.val (.ref b), .val (.int (33 : Int32)), .val (.int (4 : Int32)), .val (.long (((0 : Int64) <<< ((8 : Int32) &&& 0x3f).toInt64) ||| ((w0 &&& (255 : Int32)).toInt64))), .second, .val (.int (33 : Int32))] []))
  refine own_st (fun u_ k_ => XS.iinc X0.here hx rfl (hb hby own_d_prog_14_4_28) rfl (l' := #[.val (.ref b), .val (.int (33 : Int32)), .val (.int (4 : Int32)), .val (.long (((0 : Int64) <<< ((8 : Int32) &&& 0x3f).toInt64) ||| ((w0 &&& (255 : Int32)).toInt64))), .second, .val (.int (34 : Int32))]) rfl k_) ?_
  show own_Go p e below _ (s₁.setTop (mkF m 31 #[.val (.ref b), .val (.int (33 : Int32)), .val (.int (4 : Int32)), .val (.long (((0 : Int64) <<< ((8 : Int32) &&& 0x3f).toInt64) ||| ((w0 &&& (255 : Int32)).toInt64))), .second, .val (.int (34 : Int32))] []))
  refine own_st (fun u_ k_ => XS.goto X0.here hx rfl (pc0 := 31) (pc' := 5) rfl (hb hby own_d_prog_14_4_31) (by decide) (by decide) k_) ?_
  show own_Go p e below _ (s₁.setTop (mkF m 5 #[.val (.ref b), .val (.int (33 : Int32)), .val (.int (4 : Int32)), .val (.long (((0 : Int64) <<< ((8 : Int32) &&& 0x3f).toInt64) ||| ((w0 &&& (255 : Int32)).toInt64))), .second, .val (.int (34 : Int32))] []))
  refine own_st (fun u_ k_ => XS.iload X0.here hx rfl (hb hby own_d_prog_14_4_5) rfl k_) ?_
  show own_Go p e below _ (s₁.setTop (mkF m 7 #[.val (.ref b), .val (.int (33 : Int32)), .val (.int (4 : Int32)), .val (.long (((0 : Int64) <<< ((8 : Int32) &&& 0x3f).toInt64) ||| ((w0 &&& (255 : Int32)).toInt64))), .second, .val (.int (34 : Int32))] [(.int (34 : Int32))]))
  refine own_st (fun u_ k_ => XS.iloadN X0.here hx rfl (hb hby own_d_prog_14_4_7) rfl k_) ?_
  show own_Go p e below _ (s₁.setTop (mkF m 8 #[.val (.ref b), .val (.int (33 : Int32)), .val (.int (4 : Int32)), .val (.long (((0 : Int64) <<< ((8 : Int32) &&& 0x3f).toInt64) ||| ((w0 &&& (255 : Int32)).toInt64))), .second, .val (.int (34 : Int32))] [(.int (33 : Int32)), (.int (34 : Int32))]))
  refine own_st (fun u_ k_ => XS.iloadN X0.here hx rfl (hb hby own_d_prog_14_4_8) rfl k_) ?_
  show own_Go p e below _ (s₁.setTop (mkF m 9 #[.val (.ref b), .val (.int (33 : Int32)), .val (.int (4 : Int32)), .val (.long (((0 : Int64) <<< ((8 : Int32) &&& 0x3f).toInt64) ||| ((w0 &&& (255 : Int32)).toInt64))), .second, .val (.int (34 : Int32))] [(.int (4 : Int32)), (.int (33 : Int32)), (.int (34 : Int32))]))
  refine own_st (fun u_ k_ => XS.iadd X0.here hx rfl (hb hby own_d_prog_14_4_9) rfl k_) ?_
  show own_Go p e below _ (s₁.setTop (mkF m 10 #[.val (.ref b), .val (.int (33 : Int32)), .val (.int (4 : Int32)), .val (.long (((0 : Int64) <<< ((8 : Int32) &&& 0x3f).toInt64) ||| ((w0 &&& (255 : Int32)).toInt64))), .second, .val (.int (34 : Int32))] [(.int (37 : Int32)), (.int (34 : Int32))]))
  refine own_st (fun u_ k_ => XS.icmpNo X0.here hx rfl (hb hby own_d_prog_14_4_10) rfl (XT.ii_ge_f (by decide)) k_) ?_
  show own_Go p e below _ (s₁.setTop (mkF m 13 #[.val (.ref b), .val (.int (33 : Int32)), .val (.int (4 : Int32)), .val (.long (((0 : Int64) <<< ((8 : Int32) &&& 0x3f).toInt64) ||| ((w0 &&& (255 : Int32)).toInt64))), .second, .val (.int (34 : Int32))] []))
  refine own_st (fun u_ k_ => XS.lloadN X0.here hx rfl (hb hby own_d_prog_14_4_13) rfl k_) ?_
  show own_Go p e below _ (s₁.setTop (mkF m 14 #[.val (.ref b), .val (.int (33 : Int32)), .val (.int (4 : Int32)), .val (.long (((0 : Int64) <<< ((8 : Int32) &&& 0x3f).toInt64) ||| ((w0 &&& (255 : Int32)).toInt64))), .second, .val (.int (34 : Int32))] [(.long (((0 : Int64) <<< ((8 : Int32) &&& 0x3f).toInt64) ||| ((w0 &&& (255 : Int32)).toInt64)))]))
  refine own_st (fun u_ k_ => XS.bipush X0.here hx rfl (hb hby own_d_prog_14_4_14) k_) ?_
  show own_Go p e below _ (s₁.setTop (mkF m 16 #[.val (.ref b), .val (.int (33 : Int32)), .val (.int (4 : Int32)), .val (.long (((0 : Int64) <<< ((8 : Int32) &&& 0x3f).toInt64) ||| ((w0 &&& (255 : Int32)).toInt64))), .second, .val (.int (34 : Int32))] [(.int (8 : Int32)), (.long (((0 : Int64) <<< ((8 : Int32) &&& 0x3f).toInt64) ||| ((w0 &&& (255 : Int32)).toInt64)))]))
  refine own_st (fun u_ k_ => XS.lshl X0.here hx rfl (hb hby own_d_prog_14_4_16) rfl k_) ?_
  show own_Go p e below _ (s₁.setTop (mkF m 17 #[.val (.ref b), .val (.int (33 : Int32)), .val (.int (4 : Int32)), .val (.long (((0 : Int64) <<< ((8 : Int32) &&& 0x3f).toInt64) ||| ((w0 &&& (255 : Int32)).toInt64))), .second, .val (.int (34 : Int32))] [(.long ((((0 : Int64) <<< ((8 : Int32) &&& 0x3f).toInt64) ||| ((w0 &&& (255 : Int32)).toInt64)) <<< ((8 : Int32) &&& 0x3f).toInt64))]))
  refine own_st (fun u_ k_ => XS.aloadN X0.here hx rfl (hb hby own_d_prog_14_4_17) rfl rfl k_) ?_
  show own_Go p e below _ (s₁.setTop (mkF m 18 #[.val (.ref b), .val (.int (33 : Int32)), .val (.int (4 : Int32)), .val (.long (((0 : Int64) <<< ((8 : Int32) &&& 0x3f).toInt64) ||| ((w0 &&& (255 : Int32)).toInt64))), .second, .val (.int (34 : Int32))] [(.ref b), (.long ((((0 : Int64) <<< ((8 : Int32) &&& 0x3f).toInt64) ||| ((w0 &&& (255 : Int32)).toInt64)) <<< ((8 : Int32) &&& 0x3f).toInt64))]))
  refine own_st (fun u_ k_ => XS.iload X0.here hx rfl (hb hby own_d_prog_14_4_18) rfl k_) ?_
  show own_Go p e below _ (s₁.setTop (mkF m 20 #[.val (.ref b), .val (.int (33 : Int32)), .val (.int (4 : Int32)), .val (.long (((0 : Int64) <<< ((8 : Int32) &&& 0x3f).toInt64) ||| ((w0 &&& (255 : Int32)).toInt64))), .second, .val (.int (34 : Int32))] [(.int (34 : Int32)), (.ref b), (.long ((((0 : Int64) <<< ((8 : Int32) &&& 0x3f).toInt64) ||| ((w0 &&& (255 : Int32)).toInt64)) <<< ((8 : Int32) &&& 0x3f).toInt64))]))
  obtain ⟨cl130, Ar130, q130, S130, N130, H130, G130⟩ := id V
  have hi130 : ¬ ((34 : Int32) < 0 ∨ cl130.slots.size ≤ ((34 : Int32)).toNatClampNeg) := inb_of S130 ⟨by decide, own_lt37 hn (by decide)⟩
  have ha130 : cl130.slots[((34 : Int32)).toNatClampNeg]? = some (.int w1) := H130.at hi130 e_1
  refine own_st (X0.baloadBytes hx (j := (34 : Int32)) (v := (.int w1)) (by rw [e0]; exact Ar130.1) (State.isArrayOf_alike hZ.alike Ar130.2.1) Ar130.2.2 hi130 ha130 (g := (mkF m 20 #[.val (.ref b), .val (.int (33 : Int32)), .val (.int (4 : Int32)), .val (.long (((0 : Int64) <<< ((8 : Int32) &&& 0x3f).toInt64) ||| ((w0 &&& (255 : Int32)).toInt64))), .second, .val (.int (34 : Int32))] [(.int (34 : Int32)), (.ref b), (.long ((((0 : Int64) <<< ((8 : Int32) &&& 0x3f).toInt64) ||| ((w0 &&& (255 : Int32)).toInt64)) <<< ((8 : Int32) &&& 0x3f).toInt64))])) rfl rfl (hb hby own_d_prog_14_4_20)) ?_
  show own_Go p e below _ (s₁.setTop (mkF m 21 #[.val (.ref b), .val (.int (33 : Int32)), .val (.int (4 : Int32)), .val (.long (((0 : Int64) <<< ((8 : Int32) &&& 0x3f).toInt64) ||| ((w0 &&& (255 : Int32)).toInt64))), .second, .val (.int (34 : Int32))] [(.int w1), (.long ((((0 : Int64) <<< ((8 : Int32) &&& 0x3f).toInt64) ||| ((w0 &&& (255 : Int32)).toInt64)) <<< ((8 : Int32) &&& 0x3f).toInt64))]))
  refine own_st (fun u_ k_ => XS.sipush X0.here hx rfl (hb hby own_d_prog_14_4_21) k_) ?_
  show own_Go p e below _ (s₁.setTop (mkF m 24 #[.val (.ref b), .val (.int (33 : Int32)), .val (.int (4 : Int32)), .val (.long (((0 : Int64) <<< ((8 : Int32) &&& 0x3f).toInt64) ||| ((w0 &&& (255 : Int32)).toInt64))), .second, .val (.int (34 : Int32))] [(.int (255 : Int32)), (.int w1), (.long ((((0 : Int64) <<< ((8 : Int32) &&& 0x3f).toInt64) ||| ((w0 &&& (255 : Int32)).toInt64)) <<< ((8 : Int32) &&& 0x3f).toInt64))]))
  refine own_st (fun u_ k_ => XS.iand X0.here hx rfl (hb hby own_d_prog_14_4_24) rfl k_) ?_
  show own_Go p e below _ (s₁.setTop (mkF m 25 #[.val (.ref b), .val (.int (33 : Int32)), .val (.int (4 : Int32)), .val (.long (((0 : Int64) <<< ((8 : Int32) &&& 0x3f).toInt64) ||| ((w0 &&& (255 : Int32)).toInt64))), .second, .val (.int (34 : Int32))] [(.int (w1 &&& (255 : Int32))), (.long ((((0 : Int64) <<< ((8 : Int32) &&& 0x3f).toInt64) ||| ((w0 &&& (255 : Int32)).toInt64)) <<< ((8 : Int32) &&& 0x3f).toInt64))]))
  refine own_st (fun u_ k_ => XS.i2l X0.here hx rfl (hb hby own_d_prog_14_4_25) rfl k_) ?_
  show own_Go p e below _ (s₁.setTop (mkF m 26 #[.val (.ref b), .val (.int (33 : Int32)), .val (.int (4 : Int32)), .val (.long (((0 : Int64) <<< ((8 : Int32) &&& 0x3f).toInt64) ||| ((w0 &&& (255 : Int32)).toInt64))), .second, .val (.int (34 : Int32))] [(.long ((w1 &&& (255 : Int32)).toInt64)), (.long ((((0 : Int64) <<< ((8 : Int32) &&& 0x3f).toInt64) ||| ((w0 &&& (255 : Int32)).toInt64)) <<< ((8 : Int32) &&& 0x3f).toInt64))]))
  refine own_st (fun u_ k_ => XS.lor X0.here hx rfl (hb hby own_d_prog_14_4_26) rfl k_) ?_
  show own_Go p e below _ (s₁.setTop (mkF m 27 #[.val (.ref b), .val (.int (33 : Int32)), .val (.int (4 : Int32)), .val (.long (((0 : Int64) <<< ((8 : Int32) &&& 0x3f).toInt64) ||| ((w0 &&& (255 : Int32)).toInt64))), .second, .val (.int (34 : Int32))] [(.long (((((0 : Int64) <<< ((8 : Int32) &&& 0x3f).toInt64) ||| ((w0 &&& (255 : Int32)).toInt64)) <<< ((8 : Int32) &&& 0x3f).toInt64) ||| ((w1 &&& (255 : Int32)).toInt64)))]))
  refine own_st (fun u_ k_ => XS.lstoreN X0.here hx rfl (hb hby own_d_prog_14_4_27) rfl (l' := #[.val (.ref b), .val (.int (33 : Int32)), .val (.int (4 : Int32)), .val (.long (((((0 : Int64) <<< ((8 : Int32) &&& 0x3f).toInt64) ||| ((w0 &&& (255 : Int32)).toInt64)) <<< ((8 : Int32) &&& 0x3f).toInt64) ||| ((w1 &&& (255 : Int32)).toInt64))), .second, .val (.int (34 : Int32))]) rfl k_) ?_
  show own_Go p e below _ (s₁.setTop (mkF m 28 #[.val (.ref b), .val (.int (33 : Int32)), .val (.int (4 : Int32)), .val (.long (((((0 : Int64) <<< ((8 : Int32) &&& 0x3f).toInt64) ||| ((w0 &&& (255 : Int32)).toInt64)) <<< ((8 : Int32) &&& 0x3f).toInt64) ||| ((w1 &&& (255 : Int32)).toInt64))), .second, .val (.int (34 : Int32))] []))
  refine own_st (fun u_ k_ => XS.iinc X0.here hx rfl (hb hby own_d_prog_14_4_28) rfl (l' := #[.val (.ref b), .val (.int (33 : Int32)), .val (.int (4 : Int32)), .val (.long (((((0 : Int64) <<< ((8 : Int32) &&& 0x3f).toInt64) ||| ((w0 &&& (255 : Int32)).toInt64)) <<< ((8 : Int32) &&& 0x3f).toInt64) ||| ((w1 &&& (255 : Int32)).toInt64))), .second, .val (.int (35 : Int32))]) rfl k_) ?_
  show own_Go p e below _ (s₁.setTop (mkF m 31 #[.val (.ref b), .val (.int (33 : Int32)), .val (.int (4 : Int32)), .val (.long (((((0 : Int64) <<< ((8 : Int32) &&& 0x3f).toInt64) ||| ((w0 &&& (255 : Int32)).toInt64)) <<< ((8 : Int32) &&& 0x3f).toInt64) ||| ((w1 &&& (255 : Int32)).toInt64))), .second, .val (.int (35 : Int32))] []))
  refine own_st (fun u_ k_ => XS.goto X0.here hx rfl (pc0 := 31) (pc' := 5) rfl (hb hby own_d_prog_14_4_31) (by decide) (by decide) k_) ?_
  show own_Go p e below _ (s₁.setTop (mkF m 5 #[.val (.ref b), .val (.int (33 : Int32)), .val (.int (4 : Int32)), .val (.long (((((0 : Int64) <<< ((8 : Int32) &&& 0x3f).toInt64) ||| ((w0 &&& (255 : Int32)).toInt64)) <<< ((8 : Int32) &&& 0x3f).toInt64) ||| ((w1 &&& (255 : Int32)).toInt64))), .second, .val (.int (35 : Int32))] []))
  refine own_st (fun u_ k_ => XS.iload X0.here hx rfl (hb hby own_d_prog_14_4_5) rfl k_) ?_
  show own_Go p e below _ (s₁.setTop (mkF m 7 #[.val (.ref b), .val (.int (33 : Int32)), .val (.int (4 : Int32)), .val (.long (((((0 : Int64) <<< ((8 : Int32) &&& 0x3f).toInt64) ||| ((w0 &&& (255 : Int32)).toInt64)) <<< ((8 : Int32) &&& 0x3f).toInt64) ||| ((w1 &&& (255 : Int32)).toInt64))), .second, .val (.int (35 : Int32))] [(.int (35 : Int32))]))
  refine own_st (fun u_ k_ => XS.iloadN X0.here hx rfl (hb hby own_d_prog_14_4_7) rfl k_) ?_
  show own_Go p e below _ (s₁.setTop (mkF m 8 #[.val (.ref b), .val (.int (33 : Int32)), .val (.int (4 : Int32)), .val (.long (((((0 : Int64) <<< ((8 : Int32) &&& 0x3f).toInt64) ||| ((w0 &&& (255 : Int32)).toInt64)) <<< ((8 : Int32) &&& 0x3f).toInt64) ||| ((w1 &&& (255 : Int32)).toInt64))), .second, .val (.int (35 : Int32))] [(.int (33 : Int32)), (.int (35 : Int32))]))
  refine own_st (fun u_ k_ => XS.iloadN X0.here hx rfl (hb hby own_d_prog_14_4_8) rfl k_) ?_
  show own_Go p e below _ (s₁.setTop (mkF m 9 #[.val (.ref b), .val (.int (33 : Int32)), .val (.int (4 : Int32)), .val (.long (((((0 : Int64) <<< ((8 : Int32) &&& 0x3f).toInt64) ||| ((w0 &&& (255 : Int32)).toInt64)) <<< ((8 : Int32) &&& 0x3f).toInt64) ||| ((w1 &&& (255 : Int32)).toInt64))), .second, .val (.int (35 : Int32))] [(.int (4 : Int32)), (.int (33 : Int32)), (.int (35 : Int32))]))
  refine own_st (fun u_ k_ => XS.iadd X0.here hx rfl (hb hby own_d_prog_14_4_9) rfl k_) ?_
  show own_Go p e below _ (s₁.setTop (mkF m 10 #[.val (.ref b), .val (.int (33 : Int32)), .val (.int (4 : Int32)), .val (.long (((((0 : Int64) <<< ((8 : Int32) &&& 0x3f).toInt64) ||| ((w0 &&& (255 : Int32)).toInt64)) <<< ((8 : Int32) &&& 0x3f).toInt64) ||| ((w1 &&& (255 : Int32)).toInt64))), .second, .val (.int (35 : Int32))] [(.int (37 : Int32)), (.int (35 : Int32))]))
  refine own_st (fun u_ k_ => XS.icmpNo X0.here hx rfl (hb hby own_d_prog_14_4_10) rfl (XT.ii_ge_f (by decide)) k_) ?_
  show own_Go p e below _ (s₁.setTop (mkF m 13 #[.val (.ref b), .val (.int (33 : Int32)), .val (.int (4 : Int32)), .val (.long (((((0 : Int64) <<< ((8 : Int32) &&& 0x3f).toInt64) ||| ((w0 &&& (255 : Int32)).toInt64)) <<< ((8 : Int32) &&& 0x3f).toInt64) ||| ((w1 &&& (255 : Int32)).toInt64))), .second, .val (.int (35 : Int32))] []))
  refine own_st (fun u_ k_ => XS.lloadN X0.here hx rfl (hb hby own_d_prog_14_4_13) rfl k_) ?_
  show own_Go p e below _ (s₁.setTop (mkF m 14 #[.val (.ref b), .val (.int (33 : Int32)), .val (.int (4 : Int32)), .val (.long (((((0 : Int64) <<< ((8 : Int32) &&& 0x3f).toInt64) ||| ((w0 &&& (255 : Int32)).toInt64)) <<< ((8 : Int32) &&& 0x3f).toInt64) ||| ((w1 &&& (255 : Int32)).toInt64))), .second, .val (.int (35 : Int32))] [(.long (((((0 : Int64) <<< ((8 : Int32) &&& 0x3f).toInt64) ||| ((w0 &&& (255 : Int32)).toInt64)) <<< ((8 : Int32) &&& 0x3f).toInt64) ||| ((w1 &&& (255 : Int32)).toInt64)))]))
  refine own_st (fun u_ k_ => XS.bipush X0.here hx rfl (hb hby own_d_prog_14_4_14) k_) ?_
  show own_Go p e below _ (s₁.setTop (mkF m 16 #[.val (.ref b), .val (.int (33 : Int32)), .val (.int (4 : Int32)), .val (.long (((((0 : Int64) <<< ((8 : Int32) &&& 0x3f).toInt64) ||| ((w0 &&& (255 : Int32)).toInt64)) <<< ((8 : Int32) &&& 0x3f).toInt64) ||| ((w1 &&& (255 : Int32)).toInt64))), .second, .val (.int (35 : Int32))] [(.int (8 : Int32)), (.long (((((0 : Int64) <<< ((8 : Int32) &&& 0x3f).toInt64) ||| ((w0 &&& (255 : Int32)).toInt64)) <<< ((8 : Int32) &&& 0x3f).toInt64) ||| ((w1 &&& (255 : Int32)).toInt64)))]))
  refine own_st (fun u_ k_ => XS.lshl X0.here hx rfl (hb hby own_d_prog_14_4_16) rfl k_) ?_
  show own_Go p e below _ (s₁.setTop (mkF m 17 #[.val (.ref b), .val (.int (33 : Int32)), .val (.int (4 : Int32)), .val (.long (((((0 : Int64) <<< ((8 : Int32) &&& 0x3f).toInt64) ||| ((w0 &&& (255 : Int32)).toInt64)) <<< ((8 : Int32) &&& 0x3f).toInt64) ||| ((w1 &&& (255 : Int32)).toInt64))), .second, .val (.int (35 : Int32))] [(.long ((((((0 : Int64) <<< ((8 : Int32) &&& 0x3f).toInt64) ||| ((w0 &&& (255 : Int32)).toInt64)) <<< ((8 : Int32) &&& 0x3f).toInt64) ||| ((w1 &&& (255 : Int32)).toInt64)) <<< ((8 : Int32) &&& 0x3f).toInt64))]))
  refine own_st (fun u_ k_ => XS.aloadN X0.here hx rfl (hb hby own_d_prog_14_4_17) rfl rfl k_) ?_
  show own_Go p e below _ (s₁.setTop (mkF m 18 #[.val (.ref b), .val (.int (33 : Int32)), .val (.int (4 : Int32)), .val (.long (((((0 : Int64) <<< ((8 : Int32) &&& 0x3f).toInt64) ||| ((w0 &&& (255 : Int32)).toInt64)) <<< ((8 : Int32) &&& 0x3f).toInt64) ||| ((w1 &&& (255 : Int32)).toInt64))), .second, .val (.int (35 : Int32))] [(.ref b), (.long ((((((0 : Int64) <<< ((8 : Int32) &&& 0x3f).toInt64) ||| ((w0 &&& (255 : Int32)).toInt64)) <<< ((8 : Int32) &&& 0x3f).toInt64) ||| ((w1 &&& (255 : Int32)).toInt64)) <<< ((8 : Int32) &&& 0x3f).toInt64))]))
  refine own_st (fun u_ k_ => XS.iload X0.here hx rfl (hb hby own_d_prog_14_4_18) rfl k_) ?_
  show own_Go p e below _ (s₁.setTop (mkF m 20 #[.val (.ref b), .val (.int (33 : Int32)), .val (.int (4 : Int32)), .val (.long (((((0 : Int64) <<< ((8 : Int32) &&& 0x3f).toInt64) ||| ((w0 &&& (255 : Int32)).toInt64)) <<< ((8 : Int32) &&& 0x3f).toInt64) ||| ((w1 &&& (255 : Int32)).toInt64))), .second, .val (.int (35 : Int32))] [(.int (35 : Int32)), (.ref b), (.long ((((((0 : Int64) <<< ((8 : Int32) &&& 0x3f).toInt64) ||| ((w0 &&& (255 : Int32)).toInt64)) <<< ((8 : Int32) &&& 0x3f).toInt64) ||| ((w1 &&& (255 : Int32)).toInt64)) <<< ((8 : Int32) &&& 0x3f).toInt64))]))
  obtain ⟨cl131, Ar131, q131, S131, N131, H131, G131⟩ := id V
  have hi131 : ¬ ((35 : Int32) < 0 ∨ cl131.slots.size ≤ ((35 : Int32)).toNatClampNeg) := inb_of S131 ⟨by decide, own_lt37 hn (by decide)⟩
  have ha131 : cl131.slots[((35 : Int32)).toNatClampNeg]? = some (.int w2) := H131.at hi131 e_2
  refine own_st (X0.baloadBytes hx (j := (35 : Int32)) (v := (.int w2)) (by rw [e0]; exact Ar131.1) (State.isArrayOf_alike hZ.alike Ar131.2.1) Ar131.2.2 hi131 ha131 (g := (mkF m 20 #[.val (.ref b), .val (.int (33 : Int32)), .val (.int (4 : Int32)), .val (.long (((((0 : Int64) <<< ((8 : Int32) &&& 0x3f).toInt64) ||| ((w0 &&& (255 : Int32)).toInt64)) <<< ((8 : Int32) &&& 0x3f).toInt64) ||| ((w1 &&& (255 : Int32)).toInt64))), .second, .val (.int (35 : Int32))] [(.int (35 : Int32)), (.ref b), (.long ((((((0 : Int64) <<< ((8 : Int32) &&& 0x3f).toInt64) ||| ((w0 &&& (255 : Int32)).toInt64)) <<< ((8 : Int32) &&& 0x3f).toInt64) ||| ((w1 &&& (255 : Int32)).toInt64)) <<< ((8 : Int32) &&& 0x3f).toInt64))])) rfl rfl (hb hby own_d_prog_14_4_20)) ?_
  show own_Go p e below _ (s₁.setTop (mkF m 21 #[.val (.ref b), .val (.int (33 : Int32)), .val (.int (4 : Int32)), .val (.long (((((0 : Int64) <<< ((8 : Int32) &&& 0x3f).toInt64) ||| ((w0 &&& (255 : Int32)).toInt64)) <<< ((8 : Int32) &&& 0x3f).toInt64) ||| ((w1 &&& (255 : Int32)).toInt64))), .second, .val (.int (35 : Int32))] [(.int w2), (.long ((((((0 : Int64) <<< ((8 : Int32) &&& 0x3f).toInt64) ||| ((w0 &&& (255 : Int32)).toInt64)) <<< ((8 : Int32) &&& 0x3f).toInt64) ||| ((w1 &&& (255 : Int32)).toInt64)) <<< ((8 : Int32) &&& 0x3f).toInt64))]))
  refine own_st (fun u_ k_ => XS.sipush X0.here hx rfl (hb hby own_d_prog_14_4_21) k_) ?_
  show own_Go p e below _ (s₁.setTop (mkF m 24 #[.val (.ref b), .val (.int (33 : Int32)), .val (.int (4 : Int32)), .val (.long (((((0 : Int64) <<< ((8 : Int32) &&& 0x3f).toInt64) ||| ((w0 &&& (255 : Int32)).toInt64)) <<< ((8 : Int32) &&& 0x3f).toInt64) ||| ((w1 &&& (255 : Int32)).toInt64))), .second, .val (.int (35 : Int32))] [(.int (255 : Int32)), (.int w2), (.long ((((((0 : Int64) <<< ((8 : Int32) &&& 0x3f).toInt64) ||| ((w0 &&& (255 : Int32)).toInt64)) <<< ((8 : Int32) &&& 0x3f).toInt64) ||| ((w1 &&& (255 : Int32)).toInt64)) <<< ((8 : Int32) &&& 0x3f).toInt64))]))
  refine own_st (fun u_ k_ => XS.iand X0.here hx rfl (hb hby own_d_prog_14_4_24) rfl k_) ?_
  show own_Go p e below _ (s₁.setTop (mkF m 25 #[.val (.ref b), .val (.int (33 : Int32)), .val (.int (4 : Int32)), .val (.long (((((0 : Int64) <<< ((8 : Int32) &&& 0x3f).toInt64) ||| ((w0 &&& (255 : Int32)).toInt64)) <<< ((8 : Int32) &&& 0x3f).toInt64) ||| ((w1 &&& (255 : Int32)).toInt64))), .second, .val (.int (35 : Int32))] [(.int (w2 &&& (255 : Int32))), (.long ((((((0 : Int64) <<< ((8 : Int32) &&& 0x3f).toInt64) ||| ((w0 &&& (255 : Int32)).toInt64)) <<< ((8 : Int32) &&& 0x3f).toInt64) ||| ((w1 &&& (255 : Int32)).toInt64)) <<< ((8 : Int32) &&& 0x3f).toInt64))]))
  refine own_st (fun u_ k_ => XS.i2l X0.here hx rfl (hb hby own_d_prog_14_4_25) rfl k_) ?_
  show own_Go p e below _ (s₁.setTop (mkF m 26 #[.val (.ref b), .val (.int (33 : Int32)), .val (.int (4 : Int32)), .val (.long (((((0 : Int64) <<< ((8 : Int32) &&& 0x3f).toInt64) ||| ((w0 &&& (255 : Int32)).toInt64)) <<< ((8 : Int32) &&& 0x3f).toInt64) ||| ((w1 &&& (255 : Int32)).toInt64))), .second, .val (.int (35 : Int32))] [(.long ((w2 &&& (255 : Int32)).toInt64)), (.long ((((((0 : Int64) <<< ((8 : Int32) &&& 0x3f).toInt64) ||| ((w0 &&& (255 : Int32)).toInt64)) <<< ((8 : Int32) &&& 0x3f).toInt64) ||| ((w1 &&& (255 : Int32)).toInt64)) <<< ((8 : Int32) &&& 0x3f).toInt64))]))
  refine own_st (fun u_ k_ => XS.lor X0.here hx rfl (hb hby own_d_prog_14_4_26) rfl k_) ?_
  show own_Go p e below _ (s₁.setTop (mkF m 27 #[.val (.ref b), .val (.int (33 : Int32)), .val (.int (4 : Int32)), .val (.long (((((0 : Int64) <<< ((8 : Int32) &&& 0x3f).toInt64) ||| ((w0 &&& (255 : Int32)).toInt64)) <<< ((8 : Int32) &&& 0x3f).toInt64) ||| ((w1 &&& (255 : Int32)).toInt64))), .second, .val (.int (35 : Int32))] [(.long (((((((0 : Int64) <<< ((8 : Int32) &&& 0x3f).toInt64) ||| ((w0 &&& (255 : Int32)).toInt64)) <<< ((8 : Int32) &&& 0x3f).toInt64) ||| ((w1 &&& (255 : Int32)).toInt64)) <<< ((8 : Int32) &&& 0x3f).toInt64) ||| ((w2 &&& (255 : Int32)).toInt64)))]))
  refine own_st (fun u_ k_ => XS.lstoreN X0.here hx rfl (hb hby own_d_prog_14_4_27) rfl (l' := #[.val (.ref b), .val (.int (33 : Int32)), .val (.int (4 : Int32)), .val (.long (((((((0 : Int64) <<< ((8 : Int32) &&& 0x3f).toInt64) ||| ((w0 &&& (255 : Int32)).toInt64)) <<< ((8 : Int32) &&& 0x3f).toInt64) ||| ((w1 &&& (255 : Int32)).toInt64)) <<< ((8 : Int32) &&& 0x3f).toInt64) ||| ((w2 &&& (255 : Int32)).toInt64))), .second, .val (.int (35 : Int32))]) rfl k_) ?_
  show own_Go p e below _ (s₁.setTop (mkF m 28 #[.val (.ref b), .val (.int (33 : Int32)), .val (.int (4 : Int32)), .val (.long (((((((0 : Int64) <<< ((8 : Int32) &&& 0x3f).toInt64) ||| ((w0 &&& (255 : Int32)).toInt64)) <<< ((8 : Int32) &&& 0x3f).toInt64) ||| ((w1 &&& (255 : Int32)).toInt64)) <<< ((8 : Int32) &&& 0x3f).toInt64) ||| ((w2 &&& (255 : Int32)).toInt64))), .second, .val (.int (35 : Int32))] []))
  refine own_st (fun u_ k_ => XS.iinc X0.here hx rfl (hb hby own_d_prog_14_4_28) rfl (l' := #[.val (.ref b), .val (.int (33 : Int32)), .val (.int (4 : Int32)), .val (.long (((((((0 : Int64) <<< ((8 : Int32) &&& 0x3f).toInt64) ||| ((w0 &&& (255 : Int32)).toInt64)) <<< ((8 : Int32) &&& 0x3f).toInt64) ||| ((w1 &&& (255 : Int32)).toInt64)) <<< ((8 : Int32) &&& 0x3f).toInt64) ||| ((w2 &&& (255 : Int32)).toInt64))), .second, .val (.int (36 : Int32))]) rfl k_) ?_
  show own_Go p e below _ (s₁.setTop (mkF m 31 #[.val (.ref b), .val (.int (33 : Int32)), .val (.int (4 : Int32)), .val (.long (((((((0 : Int64) <<< ((8 : Int32) &&& 0x3f).toInt64) ||| ((w0 &&& (255 : Int32)).toInt64)) <<< ((8 : Int32) &&& 0x3f).toInt64) ||| ((w1 &&& (255 : Int32)).toInt64)) <<< ((8 : Int32) &&& 0x3f).toInt64) ||| ((w2 &&& (255 : Int32)).toInt64))), .second, .val (.int (36 : Int32))] []))
  refine own_st (fun u_ k_ => XS.goto X0.here hx rfl (pc0 := 31) (pc' := 5) rfl (hb hby own_d_prog_14_4_31) (by decide) (by decide) k_) ?_
  show own_Go p e below _ (s₁.setTop (mkF m 5 #[.val (.ref b), .val (.int (33 : Int32)), .val (.int (4 : Int32)), .val (.long (((((((0 : Int64) <<< ((8 : Int32) &&& 0x3f).toInt64) ||| ((w0 &&& (255 : Int32)).toInt64)) <<< ((8 : Int32) &&& 0x3f).toInt64) ||| ((w1 &&& (255 : Int32)).toInt64)) <<< ((8 : Int32) &&& 0x3f).toInt64) ||| ((w2 &&& (255 : Int32)).toInt64))), .second, .val (.int (36 : Int32))] []))
  refine own_st (fun u_ k_ => XS.iload X0.here hx rfl (hb hby own_d_prog_14_4_5) rfl k_) ?_
  show own_Go p e below _ (s₁.setTop (mkF m 7 #[.val (.ref b), .val (.int (33 : Int32)), .val (.int (4 : Int32)), .val (.long (((((((0 : Int64) <<< ((8 : Int32) &&& 0x3f).toInt64) ||| ((w0 &&& (255 : Int32)).toInt64)) <<< ((8 : Int32) &&& 0x3f).toInt64) ||| ((w1 &&& (255 : Int32)).toInt64)) <<< ((8 : Int32) &&& 0x3f).toInt64) ||| ((w2 &&& (255 : Int32)).toInt64))), .second, .val (.int (36 : Int32))] [(.int (36 : Int32))]))
  refine own_st (fun u_ k_ => XS.iloadN X0.here hx rfl (hb hby own_d_prog_14_4_7) rfl k_) ?_
  show own_Go p e below _ (s₁.setTop (mkF m 8 #[.val (.ref b), .val (.int (33 : Int32)), .val (.int (4 : Int32)), .val (.long (((((((0 : Int64) <<< ((8 : Int32) &&& 0x3f).toInt64) ||| ((w0 &&& (255 : Int32)).toInt64)) <<< ((8 : Int32) &&& 0x3f).toInt64) ||| ((w1 &&& (255 : Int32)).toInt64)) <<< ((8 : Int32) &&& 0x3f).toInt64) ||| ((w2 &&& (255 : Int32)).toInt64))), .second, .val (.int (36 : Int32))] [(.int (33 : Int32)), (.int (36 : Int32))]))
  refine own_st (fun u_ k_ => XS.iloadN X0.here hx rfl (hb hby own_d_prog_14_4_8) rfl k_) ?_
  show own_Go p e below _ (s₁.setTop (mkF m 9 #[.val (.ref b), .val (.int (33 : Int32)), .val (.int (4 : Int32)), .val (.long (((((((0 : Int64) <<< ((8 : Int32) &&& 0x3f).toInt64) ||| ((w0 &&& (255 : Int32)).toInt64)) <<< ((8 : Int32) &&& 0x3f).toInt64) ||| ((w1 &&& (255 : Int32)).toInt64)) <<< ((8 : Int32) &&& 0x3f).toInt64) ||| ((w2 &&& (255 : Int32)).toInt64))), .second, .val (.int (36 : Int32))] [(.int (4 : Int32)), (.int (33 : Int32)), (.int (36 : Int32))]))
  refine own_st (fun u_ k_ => XS.iadd X0.here hx rfl (hb hby own_d_prog_14_4_9) rfl k_) ?_
  show own_Go p e below _ (s₁.setTop (mkF m 10 #[.val (.ref b), .val (.int (33 : Int32)), .val (.int (4 : Int32)), .val (.long (((((((0 : Int64) <<< ((8 : Int32) &&& 0x3f).toInt64) ||| ((w0 &&& (255 : Int32)).toInt64)) <<< ((8 : Int32) &&& 0x3f).toInt64) ||| ((w1 &&& (255 : Int32)).toInt64)) <<< ((8 : Int32) &&& 0x3f).toInt64) ||| ((w2 &&& (255 : Int32)).toInt64))), .second, .val (.int (36 : Int32))] [(.int (37 : Int32)), (.int (36 : Int32))]))
  refine own_st (fun u_ k_ => XS.icmpNo X0.here hx rfl (hb hby own_d_prog_14_4_10) rfl (XT.ii_ge_f (by decide)) k_) ?_
  show own_Go p e below _ (s₁.setTop (mkF m 13 #[.val (.ref b), .val (.int (33 : Int32)), .val (.int (4 : Int32)), .val (.long (((((((0 : Int64) <<< ((8 : Int32) &&& 0x3f).toInt64) ||| ((w0 &&& (255 : Int32)).toInt64)) <<< ((8 : Int32) &&& 0x3f).toInt64) ||| ((w1 &&& (255 : Int32)).toInt64)) <<< ((8 : Int32) &&& 0x3f).toInt64) ||| ((w2 &&& (255 : Int32)).toInt64))), .second, .val (.int (36 : Int32))] []))
  refine own_st (fun u_ k_ => XS.lloadN X0.here hx rfl (hb hby own_d_prog_14_4_13) rfl k_) ?_
  show own_Go p e below _ (s₁.setTop (mkF m 14 #[.val (.ref b), .val (.int (33 : Int32)), .val (.int (4 : Int32)), .val (.long (((((((0 : Int64) <<< ((8 : Int32) &&& 0x3f).toInt64) ||| ((w0 &&& (255 : Int32)).toInt64)) <<< ((8 : Int32) &&& 0x3f).toInt64) ||| ((w1 &&& (255 : Int32)).toInt64)) <<< ((8 : Int32) &&& 0x3f).toInt64) ||| ((w2 &&& (255 : Int32)).toInt64))), .second, .val (.int (36 : Int32))] [(.long (((((((0 : Int64) <<< ((8 : Int32) &&& 0x3f).toInt64) ||| ((w0 &&& (255 : Int32)).toInt64)) <<< ((8 : Int32) &&& 0x3f).toInt64) ||| ((w1 &&& (255 : Int32)).toInt64)) <<< ((8 : Int32) &&& 0x3f).toInt64) ||| ((w2 &&& (255 : Int32)).toInt64)))]))
  refine own_st (fun u_ k_ => XS.bipush X0.here hx rfl (hb hby own_d_prog_14_4_14) k_) ?_
  show own_Go p e below _ (s₁.setTop (mkF m 16 #[.val (.ref b), .val (.int (33 : Int32)), .val (.int (4 : Int32)), .val (.long (((((((0 : Int64) <<< ((8 : Int32) &&& 0x3f).toInt64) ||| ((w0 &&& (255 : Int32)).toInt64)) <<< ((8 : Int32) &&& 0x3f).toInt64) ||| ((w1 &&& (255 : Int32)).toInt64)) <<< ((8 : Int32) &&& 0x3f).toInt64) ||| ((w2 &&& (255 : Int32)).toInt64))), .second, .val (.int (36 : Int32))] [(.int (8 : Int32)), (.long (((((((0 : Int64) <<< ((8 : Int32) &&& 0x3f).toInt64) ||| ((w0 &&& (255 : Int32)).toInt64)) <<< ((8 : Int32) &&& 0x3f).toInt64) ||| ((w1 &&& (255 : Int32)).toInt64)) <<< ((8 : Int32) &&& 0x3f).toInt64) ||| ((w2 &&& (255 : Int32)).toInt64)))]))
  refine own_st (fun u_ k_ => XS.lshl X0.here hx rfl (hb hby own_d_prog_14_4_16) rfl k_) ?_
  show own_Go p e below _ (s₁.setTop (mkF m 17 #[.val (.ref b), .val (.int (33 : Int32)), .val (.int (4 : Int32)), .val (.long (((((((0 : Int64) <<< ((8 : Int32) &&& 0x3f).toInt64) ||| ((w0 &&& (255 : Int32)).toInt64)) <<< ((8 : Int32) &&& 0x3f).toInt64) ||| ((w1 &&& (255 : Int32)).toInt64)) <<< ((8 : Int32) &&& 0x3f).toInt64) ||| ((w2 &&& (255 : Int32)).toInt64))), .second, .val (.int (36 : Int32))] [(.long ((((((((0 : Int64) <<< ((8 : Int32) &&& 0x3f).toInt64) ||| ((w0 &&& (255 : Int32)).toInt64)) <<< ((8 : Int32) &&& 0x3f).toInt64) ||| ((w1 &&& (255 : Int32)).toInt64)) <<< ((8 : Int32) &&& 0x3f).toInt64) ||| ((w2 &&& (255 : Int32)).toInt64)) <<< ((8 : Int32) &&& 0x3f).toInt64))]))
  refine own_st (fun u_ k_ => XS.aloadN X0.here hx rfl (hb hby own_d_prog_14_4_17) rfl rfl k_) ?_
  show own_Go p e below _ (s₁.setTop (mkF m 18 #[.val (.ref b), .val (.int (33 : Int32)), .val (.int (4 : Int32)), .val (.long (((((((0 : Int64) <<< ((8 : Int32) &&& 0x3f).toInt64) ||| ((w0 &&& (255 : Int32)).toInt64)) <<< ((8 : Int32) &&& 0x3f).toInt64) ||| ((w1 &&& (255 : Int32)).toInt64)) <<< ((8 : Int32) &&& 0x3f).toInt64) ||| ((w2 &&& (255 : Int32)).toInt64))), .second, .val (.int (36 : Int32))] [(.ref b), (.long ((((((((0 : Int64) <<< ((8 : Int32) &&& 0x3f).toInt64) ||| ((w0 &&& (255 : Int32)).toInt64)) <<< ((8 : Int32) &&& 0x3f).toInt64) ||| ((w1 &&& (255 : Int32)).toInt64)) <<< ((8 : Int32) &&& 0x3f).toInt64) ||| ((w2 &&& (255 : Int32)).toInt64)) <<< ((8 : Int32) &&& 0x3f).toInt64))]))
  refine own_st (fun u_ k_ => XS.iload X0.here hx rfl (hb hby own_d_prog_14_4_18) rfl k_) ?_
  show own_Go p e below _ (s₁.setTop (mkF m 20 #[.val (.ref b), .val (.int (33 : Int32)), .val (.int (4 : Int32)), .val (.long (((((((0 : Int64) <<< ((8 : Int32) &&& 0x3f).toInt64) ||| ((w0 &&& (255 : Int32)).toInt64)) <<< ((8 : Int32) &&& 0x3f).toInt64) ||| ((w1 &&& (255 : Int32)).toInt64)) <<< ((8 : Int32) &&& 0x3f).toInt64) ||| ((w2 &&& (255 : Int32)).toInt64))), .second, .val (.int (36 : Int32))] [(.int (36 : Int32)), (.ref b), (.long ((((((((0 : Int64) <<< ((8 : Int32) &&& 0x3f).toInt64) ||| ((w0 &&& (255 : Int32)).toInt64)) <<< ((8 : Int32) &&& 0x3f).toInt64) ||| ((w1 &&& (255 : Int32)).toInt64)) <<< ((8 : Int32) &&& 0x3f).toInt64) ||| ((w2 &&& (255 : Int32)).toInt64)) <<< ((8 : Int32) &&& 0x3f).toInt64))]))
  obtain ⟨cl132, Ar132, q132, S132, N132, H132, G132⟩ := id V
  have hi132 : ¬ ((36 : Int32) < 0 ∨ cl132.slots.size ≤ ((36 : Int32)).toNatClampNeg) := inb_of S132 ⟨by decide, own_lt37 hn (by decide)⟩
  have ha132 : cl132.slots[((36 : Int32)).toNatClampNeg]? = some (.int w3) := H132.at hi132 e_3
  refine own_st (X0.baloadBytes hx (j := (36 : Int32)) (v := (.int w3)) (by rw [e0]; exact Ar132.1) (State.isArrayOf_alike hZ.alike Ar132.2.1) Ar132.2.2 hi132 ha132 (g := (mkF m 20 #[.val (.ref b), .val (.int (33 : Int32)), .val (.int (4 : Int32)), .val (.long (((((((0 : Int64) <<< ((8 : Int32) &&& 0x3f).toInt64) ||| ((w0 &&& (255 : Int32)).toInt64)) <<< ((8 : Int32) &&& 0x3f).toInt64) ||| ((w1 &&& (255 : Int32)).toInt64)) <<< ((8 : Int32) &&& 0x3f).toInt64) ||| ((w2 &&& (255 : Int32)).toInt64))), .second, .val (.int (36 : Int32))] [(.int (36 : Int32)), (.ref b), (.long ((((((((0 : Int64) <<< ((8 : Int32) &&& 0x3f).toInt64) ||| ((w0 &&& (255 : Int32)).toInt64)) <<< ((8 : Int32) &&& 0x3f).toInt64) ||| ((w1 &&& (255 : Int32)).toInt64)) <<< ((8 : Int32) &&& 0x3f).toInt64) ||| ((w2 &&& (255 : Int32)).toInt64)) <<< ((8 : Int32) &&& 0x3f).toInt64))])) rfl rfl (hb hby own_d_prog_14_4_20)) ?_
  show own_Go p e below _ (s₁.setTop (mkF m 21 #[.val (.ref b), .val (.int (33 : Int32)), .val (.int (4 : Int32)), .val (.long (((((((0 : Int64) <<< ((8 : Int32) &&& 0x3f).toInt64) ||| ((w0 &&& (255 : Int32)).toInt64)) <<< ((8 : Int32) &&& 0x3f).toInt64) ||| ((w1 &&& (255 : Int32)).toInt64)) <<< ((8 : Int32) &&& 0x3f).toInt64) ||| ((w2 &&& (255 : Int32)).toInt64))), .second, .val (.int (36 : Int32))] [(.int w3), (.long ((((((((0 : Int64) <<< ((8 : Int32) &&& 0x3f).toInt64) ||| ((w0 &&& (255 : Int32)).toInt64)) <<< ((8 : Int32) &&& 0x3f).toInt64) ||| ((w1 &&& (255 : Int32)).toInt64)) <<< ((8 : Int32) &&& 0x3f).toInt64) ||| ((w2 &&& (255 : Int32)).toInt64)) <<< ((8 : Int32) &&& 0x3f).toInt64))]))
  refine own_st (fun u_ k_ => XS.sipush X0.here hx rfl (hb hby own_d_prog_14_4_21) k_) ?_
  show own_Go p e below _ (s₁.setTop (mkF m 24 #[.val (.ref b), .val (.int (33 : Int32)), .val (.int (4 : Int32)), .val (.long (((((((0 : Int64) <<< ((8 : Int32) &&& 0x3f).toInt64) ||| ((w0 &&& (255 : Int32)).toInt64)) <<< ((8 : Int32) &&& 0x3f).toInt64) ||| ((w1 &&& (255 : Int32)).toInt64)) <<< ((8 : Int32) &&& 0x3f).toInt64) ||| ((w2 &&& (255 : Int32)).toInt64))), .second, .val (.int (36 : Int32))] [(.int (255 : Int32)), (.int w3), (.long ((((((((0 : Int64) <<< ((8 : Int32) &&& 0x3f).toInt64) ||| ((w0 &&& (255 : Int32)).toInt64)) <<< ((8 : Int32) &&& 0x3f).toInt64) ||| ((w1 &&& (255 : Int32)).toInt64)) <<< ((8 : Int32) &&& 0x3f).toInt64) ||| ((w2 &&& (255 : Int32)).toInt64)) <<< ((8 : Int32) &&& 0x3f).toInt64))]))
  refine own_st (fun u_ k_ => XS.iand X0.here hx rfl (hb hby own_d_prog_14_4_24) rfl k_) ?_
  show own_Go p e below _ (s₁.setTop (mkF m 25 #[.val (.ref b), .val (.int (33 : Int32)), .val (.int (4 : Int32)), .val (.long (((((((0 : Int64) <<< ((8 : Int32) &&& 0x3f).toInt64) ||| ((w0 &&& (255 : Int32)).toInt64)) <<< ((8 : Int32) &&& 0x3f).toInt64) ||| ((w1 &&& (255 : Int32)).toInt64)) <<< ((8 : Int32) &&& 0x3f).toInt64) ||| ((w2 &&& (255 : Int32)).toInt64))), .second, .val (.int (36 : Int32))] [(.int (w3 &&& (255 : Int32))), (.long ((((((((0 : Int64) <<< ((8 : Int32) &&& 0x3f).toInt64) ||| ((w0 &&& (255 : Int32)).toInt64)) <<< ((8 : Int32) &&& 0x3f).toInt64) ||| ((w1 &&& (255 : Int32)).toInt64)) <<< ((8 : Int32) &&& 0x3f).toInt64) ||| ((w2 &&& (255 : Int32)).toInt64)) <<< ((8 : Int32) &&& 0x3f).toInt64))]))
  refine own_st (fun u_ k_ => XS.i2l X0.here hx rfl (hb hby own_d_prog_14_4_25) rfl k_) ?_
  show own_Go p e below _ (s₁.setTop (mkF m 26 #[.val (.ref b), .val (.int (33 : Int32)), .val (.int (4 : Int32)), .val (.long (((((((0 : Int64) <<< ((8 : Int32) &&& 0x3f).toInt64) ||| ((w0 &&& (255 : Int32)).toInt64)) <<< ((8 : Int32) &&& 0x3f).toInt64) ||| ((w1 &&& (255 : Int32)).toInt64)) <<< ((8 : Int32) &&& 0x3f).toInt64) ||| ((w2 &&& (255 : Int32)).toInt64))), .second, .val (.int (36 : Int32))] [(.long ((w3 &&& (255 : Int32)).toInt64)), (.long ((((((((0 : Int64) <<< ((8 : Int32) &&& 0x3f).toInt64) ||| ((w0 &&& (255 : Int32)).toInt64)) <<< ((8 : Int32) &&& 0x3f).toInt64) ||| ((w1 &&& (255 : Int32)).toInt64)) <<< ((8 : Int32) &&& 0x3f).toInt64) ||| ((w2 &&& (255 : Int32)).toInt64)) <<< ((8 : Int32) &&& 0x3f).toInt64))]))
  refine own_st (fun u_ k_ => XS.lor X0.here hx rfl (hb hby own_d_prog_14_4_26) rfl k_) ?_
  show own_Go p e below _ (s₁.setTop (mkF m 27 #[.val (.ref b), .val (.int (33 : Int32)), .val (.int (4 : Int32)), .val (.long (((((((0 : Int64) <<< ((8 : Int32) &&& 0x3f).toInt64) ||| ((w0 &&& (255 : Int32)).toInt64)) <<< ((8 : Int32) &&& 0x3f).toInt64) ||| ((w1 &&& (255 : Int32)).toInt64)) <<< ((8 : Int32) &&& 0x3f).toInt64) ||| ((w2 &&& (255 : Int32)).toInt64))), .second, .val (.int (36 : Int32))] [(.long (((((((((0 : Int64) <<< ((8 : Int32) &&& 0x3f).toInt64) ||| ((w0 &&& (255 : Int32)).toInt64)) <<< ((8 : Int32) &&& 0x3f).toInt64) ||| ((w1 &&& (255 : Int32)).toInt64)) <<< ((8 : Int32) &&& 0x3f).toInt64) ||| ((w2 &&& (255 : Int32)).toInt64)) <<< ((8 : Int32) &&& 0x3f).toInt64) ||| ((w3 &&& (255 : Int32)).toInt64)))]))
  refine own_st (fun u_ k_ => XS.lstoreN X0.here hx rfl (hb hby own_d_prog_14_4_27) rfl (l' := #[.val (.ref b), .val (.int (33 : Int32)), .val (.int (4 : Int32)), .val (.long (((((((((0 : Int64) <<< ((8 : Int32) &&& 0x3f).toInt64) ||| ((w0 &&& (255 : Int32)).toInt64)) <<< ((8 : Int32) &&& 0x3f).toInt64) ||| ((w1 &&& (255 : Int32)).toInt64)) <<< ((8 : Int32) &&& 0x3f).toInt64) ||| ((w2 &&& (255 : Int32)).toInt64)) <<< ((8 : Int32) &&& 0x3f).toInt64) ||| ((w3 &&& (255 : Int32)).toInt64))), .second, .val (.int (36 : Int32))]) rfl k_) ?_
  show own_Go p e below _ (s₁.setTop (mkF m 28 #[.val (.ref b), .val (.int (33 : Int32)), .val (.int (4 : Int32)), .val (.long (((((((((0 : Int64) <<< ((8 : Int32) &&& 0x3f).toInt64) ||| ((w0 &&& (255 : Int32)).toInt64)) <<< ((8 : Int32) &&& 0x3f).toInt64) ||| ((w1 &&& (255 : Int32)).toInt64)) <<< ((8 : Int32) &&& 0x3f).toInt64) ||| ((w2 &&& (255 : Int32)).toInt64)) <<< ((8 : Int32) &&& 0x3f).toInt64) ||| ((w3 &&& (255 : Int32)).toInt64))), .second, .val (.int (36 : Int32))] []))
  refine own_st (fun u_ k_ => XS.iinc X0.here hx rfl (hb hby own_d_prog_14_4_28) rfl (l' := #[.val (.ref b), .val (.int (33 : Int32)), .val (.int (4 : Int32)), .val (.long (((((((((0 : Int64) <<< ((8 : Int32) &&& 0x3f).toInt64) ||| ((w0 &&& (255 : Int32)).toInt64)) <<< ((8 : Int32) &&& 0x3f).toInt64) ||| ((w1 &&& (255 : Int32)).toInt64)) <<< ((8 : Int32) &&& 0x3f).toInt64) ||| ((w2 &&& (255 : Int32)).toInt64)) <<< ((8 : Int32) &&& 0x3f).toInt64) ||| ((w3 &&& (255 : Int32)).toInt64))), .second, .val (.int (37 : Int32))]) rfl k_) ?_
  show own_Go p e below _ (s₁.setTop (mkF m 31 #[.val (.ref b), .val (.int (33 : Int32)), .val (.int (4 : Int32)), .val (.long (((((((((0 : Int64) <<< ((8 : Int32) &&& 0x3f).toInt64) ||| ((w0 &&& (255 : Int32)).toInt64)) <<< ((8 : Int32) &&& 0x3f).toInt64) ||| ((w1 &&& (255 : Int32)).toInt64)) <<< ((8 : Int32) &&& 0x3f).toInt64) ||| ((w2 &&& (255 : Int32)).toInt64)) <<< ((8 : Int32) &&& 0x3f).toInt64) ||| ((w3 &&& (255 : Int32)).toInt64))), .second, .val (.int (37 : Int32))] []))
  refine own_st (fun u_ k_ => XS.goto X0.here hx rfl (pc0 := 31) (pc' := 5) rfl (hb hby own_d_prog_14_4_31) (by decide) (by decide) k_) ?_
  show own_Go p e below _ (s₁.setTop (mkF m 5 #[.val (.ref b), .val (.int (33 : Int32)), .val (.int (4 : Int32)), .val (.long (((((((((0 : Int64) <<< ((8 : Int32) &&& 0x3f).toInt64) ||| ((w0 &&& (255 : Int32)).toInt64)) <<< ((8 : Int32) &&& 0x3f).toInt64) ||| ((w1 &&& (255 : Int32)).toInt64)) <<< ((8 : Int32) &&& 0x3f).toInt64) ||| ((w2 &&& (255 : Int32)).toInt64)) <<< ((8 : Int32) &&& 0x3f).toInt64) ||| ((w3 &&& (255 : Int32)).toInt64))), .second, .val (.int (37 : Int32))] []))
  refine own_st (fun u_ k_ => XS.iload X0.here hx rfl (hb hby own_d_prog_14_4_5) rfl k_) ?_
  show own_Go p e below _ (s₁.setTop (mkF m 7 #[.val (.ref b), .val (.int (33 : Int32)), .val (.int (4 : Int32)), .val (.long (((((((((0 : Int64) <<< ((8 : Int32) &&& 0x3f).toInt64) ||| ((w0 &&& (255 : Int32)).toInt64)) <<< ((8 : Int32) &&& 0x3f).toInt64) ||| ((w1 &&& (255 : Int32)).toInt64)) <<< ((8 : Int32) &&& 0x3f).toInt64) ||| ((w2 &&& (255 : Int32)).toInt64)) <<< ((8 : Int32) &&& 0x3f).toInt64) ||| ((w3 &&& (255 : Int32)).toInt64))), .second, .val (.int (37 : Int32))] [(.int (37 : Int32))]))
  refine own_st (fun u_ k_ => XS.iloadN X0.here hx rfl (hb hby own_d_prog_14_4_7) rfl k_) ?_
  show own_Go p e below _ (s₁.setTop (mkF m 8 #[.val (.ref b), .val (.int (33 : Int32)), .val (.int (4 : Int32)), .val (.long (((((((((0 : Int64) <<< ((8 : Int32) &&& 0x3f).toInt64) ||| ((w0 &&& (255 : Int32)).toInt64)) <<< ((8 : Int32) &&& 0x3f).toInt64) ||| ((w1 &&& (255 : Int32)).toInt64)) <<< ((8 : Int32) &&& 0x3f).toInt64) ||| ((w2 &&& (255 : Int32)).toInt64)) <<< ((8 : Int32) &&& 0x3f).toInt64) ||| ((w3 &&& (255 : Int32)).toInt64))), .second, .val (.int (37 : Int32))] [(.int (33 : Int32)), (.int (37 : Int32))]))
  refine own_st (fun u_ k_ => XS.iloadN X0.here hx rfl (hb hby own_d_prog_14_4_8) rfl k_) ?_
  show own_Go p e below _ (s₁.setTop (mkF m 9 #[.val (.ref b), .val (.int (33 : Int32)), .val (.int (4 : Int32)), .val (.long (((((((((0 : Int64) <<< ((8 : Int32) &&& 0x3f).toInt64) ||| ((w0 &&& (255 : Int32)).toInt64)) <<< ((8 : Int32) &&& 0x3f).toInt64) ||| ((w1 &&& (255 : Int32)).toInt64)) <<< ((8 : Int32) &&& 0x3f).toInt64) ||| ((w2 &&& (255 : Int32)).toInt64)) <<< ((8 : Int32) &&& 0x3f).toInt64) ||| ((w3 &&& (255 : Int32)).toInt64))), .second, .val (.int (37 : Int32))] [(.int (4 : Int32)), (.int (33 : Int32)), (.int (37 : Int32))]))
  refine own_st (fun u_ k_ => XS.iadd X0.here hx rfl (hb hby own_d_prog_14_4_9) rfl k_) ?_
  show own_Go p e below _ (s₁.setTop (mkF m 10 #[.val (.ref b), .val (.int (33 : Int32)), .val (.int (4 : Int32)), .val (.long (((((((((0 : Int64) <<< ((8 : Int32) &&& 0x3f).toInt64) ||| ((w0 &&& (255 : Int32)).toInt64)) <<< ((8 : Int32) &&& 0x3f).toInt64) ||| ((w1 &&& (255 : Int32)).toInt64)) <<< ((8 : Int32) &&& 0x3f).toInt64) ||| ((w2 &&& (255 : Int32)).toInt64)) <<< ((8 : Int32) &&& 0x3f).toInt64) ||| ((w3 &&& (255 : Int32)).toInt64))), .second, .val (.int (37 : Int32))] [(.int (37 : Int32)), (.int (37 : Int32))]))
  refine own_st (fun u_ k_ => XS.icmpYes X0.here hx rfl (pc0 := 10) (pc' := 34) rfl (hb hby own_d_prog_14_4_10) rfl (XT.ii_ge_t (by decide)) (by decide) (by decide) k_) ?_
  show own_Go p e below _ (s₁.setTop (mkF m 34 #[.val (.ref b), .val (.int (33 : Int32)), .val (.int (4 : Int32)), .val (.long (((((((((0 : Int64) <<< ((8 : Int32) &&& 0x3f).toInt64) ||| ((w0 &&& (255 : Int32)).toInt64)) <<< ((8 : Int32) &&& 0x3f).toInt64) ||| ((w1 &&& (255 : Int32)).toInt64)) <<< ((8 : Int32) &&& 0x3f).toInt64) ||| ((w2 &&& (255 : Int32)).toInt64)) <<< ((8 : Int32) &&& 0x3f).toInt64) ||| ((w3 &&& (255 : Int32)).toInt64))), .second, .val (.int (37 : Int32))] []))
  refine own_st (fun u_ k_ => XS.lloadN X0.here hx rfl (hb hby own_d_prog_14_4_34) rfl k_) ?_
  show own_Go p e below _ (s₁.setTop (mkF m 35 #[.val (.ref b), .val (.int (33 : Int32)), .val (.int (4 : Int32)), .val (.long (((((((((0 : Int64) <<< ((8 : Int32) &&& 0x3f).toInt64) ||| ((w0 &&& (255 : Int32)).toInt64)) <<< ((8 : Int32) &&& 0x3f).toInt64) ||| ((w1 &&& (255 : Int32)).toInt64)) <<< ((8 : Int32) &&& 0x3f).toInt64) ||| ((w2 &&& (255 : Int32)).toInt64)) <<< ((8 : Int32) &&& 0x3f).toInt64) ||| ((w3 &&& (255 : Int32)).toInt64))), .second, .val (.int (37 : Int32))] [(.long (((((((((0 : Int64) <<< ((8 : Int32) &&& 0x3f).toInt64) ||| ((w0 &&& (255 : Int32)).toInt64)) <<< ((8 : Int32) &&& 0x3f).toInt64) ||| ((w1 &&& (255 : Int32)).toInt64)) <<< ((8 : Int32) &&& 0x3f).toInt64) ||| ((w2 &&& (255 : Int32)).toInt64)) <<< ((8 : Int32) &&& 0x3f).toInt64) ||| ((w3 &&& (255 : Int32)).toInt64)))]))
  exact own_retX X0 hx hlk hret rfl (Or.inr (Or.inl ⟨rfl, rfl, _, rfl⟩)) (hb hby own_d_prog_14_4_35) (by decide) (by decide) (show QrmBE Z we b kb n vs w0 w1 w2 w3 h0 n0 (some (.long (((((((((0 : Int64) <<< ((8 : Int32) &&& 0x3f).toInt64) ||| ((w0 &&& (255 : Int32)).toInt64)) <<< ((8 : Int32) &&& 0x3f).toInt64) ||| ((w1 &&& (255 : Int32)).toInt64)) <<< ((8 : Int32) &&& 0x3f).toInt64) ||| ((w2 &&& (255 : Int32)).toInt64)) <<< ((8 : Int32) &&& 0x3f).toInt64) ||| ((w3 &&& (255 : Int32)).toInt64)))) s₁.heap _ from (by rw [e0]; exact ⟨rfl, N0, rfl⟩))
theorem own_d_jdk_29_69_0 : decode jdk_29_method_69_code 0 = .ok (.iload_n 0, 1) := by decide +kernel
theorem own_d_jdk_29_69_1 : decode jdk_29_method_69_code 1 = .ok (.iload_n 1, 1) := by decide +kernel
theorem own_d_jdk_29_69_2 : decode jdk_29_method_69_code 2 = .ok (.if_icmp .gt 7, 3) := by decide +kernel
theorem own_d_jdk_29_69_9 : decode jdk_29_method_69_code 9 = .ok (.iload_n 1, 1) := by decide +kernel
theorem own_d_jdk_29_69_10 : decode jdk_29_method_69_code 10 = .ok (.ireturn, 1) := by decide +kernel
abbrev own_y_198 : MethodName := ⟨"java/lang/Math", "min", "(II)I"⟩
theorem own_pf_199 : plainFor own_y_198 = true := by decide +kernel
theorem own_ef_rmMin (m : MethodId) (n : Int32)  : entryFrame m #[(.int n), (.int (32 : Int32))] 2 = mkF m 0 #[.val (.int n), .val (.int (32 : Int32))] [] := by first | (simp [entryFrame, mkF, argsToLocals, Value.category, maxLocals]; done) | rfl
def QrmMin (Z : State) (we : Addr) (n : Int32) (h0 : Heap) (n0 : Nat) (v : Option Value) (h : Heap) (L : List Loc) : Prop := v = some (.int (32 : Int32)) ∧ Fr n0 L ∧ h = h0
set_option maxRecDepth 65536 in
set_option maxHeartbeats 40000000 in
theorem rmMin (l : Launch) (Z : State) (a0 : Array Value) (hw : own_H a0 Z) (ws : List Jvm.Cond) (we : Addr) (hS : own_S Z we) (n : Int32) (h0 : Heap) (n0 : Nat) (O0 : Old Z n0 h0) (hlt : (32 : Int32) < n) :
    own_Met l own_y_198 jdk_29_method_69_code 2 (some .int) ws ({ frames := 0, cells := 0, slots := 0, locals := 0 } : Room) Z h0 #[(.int n), (.int (32 : Int32))] (QrmMin Z we n h0 n0) := by
  refine own_body own_pf_199 ?_
  intro p e s m below meth c s₁ hx hby hml hown hnm hret hlk hZ e0 X0
  have N0 := Fr.nil n0
  refine own_st (fun u_ k_ => castTop (own_ef_rmMin m n) k_) ?_
  show own_Go p e below _ (s₁.setTop (mkF m 0 #[.val (.int n), .val (.int (32 : Int32))] []))
  refine own_st (fun u_ k_ => XS.iloadN X0.here hx rfl (hb hby own_d_jdk_29_69_0) rfl k_) ?_
  show own_Go p e below _ (s₁.setTop (mkF m 1 #[.val (.int n), .val (.int (32 : Int32))] [(.int n)]))
  refine own_st (fun u_ k_ => XS.iloadN X0.here hx rfl (hb hby own_d_jdk_29_69_1) rfl k_) ?_
  show own_Go p e below _ (s₁.setTop (mkF m 2 #[.val (.int n), .val (.int (32 : Int32))] [(.int (32 : Int32)), (.int n)]))
  refine own_st (fun u_ k_ => XS.icmpYes X0.here hx rfl (pc0 := 2) (pc' := 9) rfl (hb hby own_d_jdk_29_69_2) rfl (XT.ii_gt_t hlt) (by decide) (by decide) k_) ?_
  show own_Go p e below _ (s₁.setTop (mkF m 9 #[.val (.int n), .val (.int (32 : Int32))] []))
  refine own_st (fun u_ k_ => XS.iloadN X0.here hx rfl (hb hby own_d_jdk_29_69_9) rfl k_) ?_
  show own_Go p e below _ (s₁.setTop (mkF m 10 #[.val (.int n), .val (.int (32 : Int32))] [(.int (32 : Int32))]))
  exact own_retX X0 hx hlk hret rfl (Or.inl ⟨rfl, by simp, _, rfl⟩) (hb hby own_d_jdk_29_69_10) (by decide) (by decide) (show QrmMin Z we n h0 n0 (some (.int (32 : Int32))) s₁.heap _ from (by rw [e0]; exact ⟨rfl, N0, rfl⟩))
theorem own_d_jdk_65_121_0 : decode jdk_65_method_121_code 0 = .ok (.iload_n 1, 1) := by decide +kernel
theorem own_d_jdk_65_121_1 : decode jdk_65_method_121_code 1 = .ok (.aload_n 0, 1) := by decide +kernel
theorem own_d_jdk_65_121_2 : decode jdk_65_method_121_code 2 = .ok (.arraylength, 1) := by decide +kernel
theorem own_d_jdk_65_121_3 : decode jdk_65_method_121_code 3 = .ok (.if_icmp .ne 11, 3) := by decide +kernel
theorem own_d_jdk_65_121_14 : decode jdk_65_method_121_code 14 = .ok (.iload_n 1, 1) := by decide +kernel
theorem own_d_jdk_65_121_15 : decode jdk_65_method_121_code 15 = .ok (.newarray .byte, 2) := by decide +kernel
theorem own_lm_206 : "[" ++ (newarray.typeOf .byte).toString = "[B" := by decide +kernel
theorem own_d_jdk_65_121_17 : decode jdk_65_method_121_code 17 = .ok (.astore_n 2, 1) := by decide +kernel
theorem own_d_jdk_65_121_18 : decode jdk_65_method_121_code 18 = .ok (.aload_n 0, 1) := by decide +kernel
theorem own_d_jdk_65_121_19 : decode jdk_65_method_121_code 19 = .ok (.iconst 0, 1) := by decide +kernel
theorem own_d_jdk_65_121_20 : decode jdk_65_method_121_code 20 = .ok (.aload_n 2, 1) := by decide +kernel
theorem own_d_jdk_65_121_21 : decode jdk_65_method_121_code 21 = .ok (.iconst 0, 1) := by decide +kernel
theorem own_d_jdk_65_121_22 : decode jdk_65_method_121_code 22 = .ok (.aload_n 0, 1) := by decide +kernel
theorem own_d_jdk_65_121_23 : decode jdk_65_method_121_code 23 = .ok (.arraylength, 1) := by decide +kernel
theorem own_d_jdk_65_121_24 : decode jdk_65_method_121_code 24 = .ok (.iload_n 1, 1) := by decide +kernel
theorem own_d_jdk_65_121_25 : decode jdk_65_method_121_code 25 = .ok (.invokestatic 304, 3) := by decide +kernel
theorem own_lm_216 : ("java/lang/Math" : String) ≠ "java/lang/invoke/MethodHandle" ∧ ("java/lang/Math" : String) ≠ "java/lang/invoke/VarHandle" := by decide +kernel
theorem own_pd_217 : parseMethodDescriptor "(II)I" = some ⟨[.int, .int], some .int⟩ := by decide +kernel
theorem own_d_jdk_65_121_28 : decode jdk_65_method_121_code 28 = .ok (.invokestatic 150, 3) := by decide +kernel
theorem own_d_jdk_65_121_31 : decode jdk_65_method_121_code 31 = .ok (.aload_n 2, 1) := by decide +kernel
theorem own_d_jdk_65_121_32 : decode jdk_65_method_121_code 32 = .ok (.areturn, 1) := by decide +kernel
abbrev own_y_221 : MethodName := ⟨"java/util/Arrays", "copyOf", "([BI)[B"⟩
theorem own_pn_222 : plainName "java/util/Arrays" = true := by first | (simp [plainName, overriddenIn]; done) | decide +kernel
theorem own_ef_rmCp (m : MethodId) (b : Addr) (n : Int32)  : entryFrame m #[(.ref b), (.int (32 : Int32))] 3 = mkF m 0 #[.val (.ref b), .val (.int (32 : Int32)), .unset] [] := by first | (simp [entryFrame, mkF, argsToLocals, Value.category, maxLocals]; done) | rfl
def QrmCp (Z : State) (we : Addr) (b : Addr) (kb : ClassId) (n : Int32) (vs : List Value) (h0 : Heap) (n0 : Nat) (v : Option Value) (h : Heap) (L : List Loc) : Prop := ∃ r : Addr, ∃ kr : ClassId, v = some (.ref r) ∧ Fr n0 L ∧ Keep h0 h [] ∧ h0.size ≤ r ∧ Arv Z h r kr .byte (32 : Int32) [(vs.getD 0 (.int (0 : Int32))), (vs.getD 1 (.int (0 : Int32))), (vs.getD 2 (.int (0 : Int32))), (vs.getD 3 (.int (0 : Int32))), (vs.getD 4 (.int (0 : Int32))), (vs.getD 5 (.int (0 : Int32))), (vs.getD 6 (.int (0 : Int32))), (vs.getD 7 (.int (0 : Int32))), (vs.getD 8 (.int (0 : Int32))), (vs.getD 9 (.int (0 : Int32))), (vs.getD 10 (.int (0 : Int32))), (vs.getD 11 (.int (0 : Int32))), (vs.getD 12 (.int (0 : Int32))), (vs.getD 13 (.int (0 : Int32))), (vs.getD 14 (.int (0 : Int32))), (vs.getD 15 (.int (0 : Int32))), (vs.getD 16 (.int (0 : Int32))), (vs.getD 17 (.int (0 : Int32))), (vs.getD 18 (.int (0 : Int32))), (vs.getD 19 (.int (0 : Int32))), (vs.getD 20 (.int (0 : Int32))), (vs.getD 21 (.int (0 : Int32))), (vs.getD 22 (.int (0 : Int32))), (vs.getD 23 (.int (0 : Int32))), (vs.getD 24 (.int (0 : Int32))), (vs.getD 25 (.int (0 : Int32))), (vs.getD 26 (.int (0 : Int32))), (vs.getD 27 (.int (0 : Int32))), (vs.getD 28 (.int (0 : Int32))), (vs.getD 29 (.int (0 : Int32))), (vs.getD 30 (.int (0 : Int32))), (vs.getD 31 (.int (0 : Int32)))] (.int (0 : Int32)) ∧ Exa Z h r "[B"
set_option maxRecDepth 65536 in
set_option maxHeartbeats 40000000 in
theorem rmCp (l : Launch) (Z : State) (a0 : Array Value) (hw : own_H a0 Z) (ws : List Jvm.Cond) (we : Addr) (hS : own_S Z we) (b : Addr) (kb : ClassId) (n : Int32) (vs : List Value) (h0 : Heap) (n0 : Nat) (O0 : Old Z n0 h0) (V : Arv Z h0 b kb .byte n vs (.int (0 : Int32))) (hn : ¬ n < (37 : Int32)) :
    own_Met l own_y_221 jdk_65_method_121_code 3 (some (.array .byte)) ws ({ frames := 1, cells := 1, slots := 32, locals := 27 } : Room) Z h0 #[(.ref b), (.int (32 : Int32))] (QrmCp Z we b kb n vs h0 n0) := by
  refine own_body (plainFor_of_name own_pn_222) ?_
  intro p e s m below meth c s₁ hx hby hml hown hnm hret hlk hZ e0 X0
  have N0 := Fr.nil n0
  refine own_st (fun u_ k_ => castTop (own_ef_rmCp m b n) k_) ?_
  show own_Go p e below _ (s₁.setTop (mkF m 0 #[.val (.ref b), .val (.int (32 : Int32)), .unset] []))
  refine own_st (fun u_ k_ => XS.iloadN X0.here hx rfl (hb hby own_d_jdk_65_121_0) rfl k_) ?_
  show own_Go p e below _ (s₁.setTop (mkF m 1 #[.val (.ref b), .val (.int (32 : Int32)), .unset] [(.int (32 : Int32))]))
  refine own_st (fun u_ k_ => XS.aloadN X0.here hx rfl (hb hby own_d_jdk_65_121_1) rfl rfl k_) ?_
  show own_Go p e below _ (s₁.setTop (mkF m 2 #[.val (.ref b), .val (.int (32 : Int32)), .unset] [(.ref b), (.int (32 : Int32))]))
  obtain ⟨cl133, Ar133, -, S133, N133, -, -⟩ := id V
  refine own_st (X0.arraylength hx (by rw [e0]; exact Ar133.1) (State.isArrayOf_alike hZ.alike Ar133.2.1) (g := (mkF m 2 #[.val (.ref b), .val (.int (32 : Int32)), .unset] [(.ref b), (.int (32 : Int32))])) rfl rfl (hb hby own_d_jdk_65_121_2)) ?_
  rw [len_of S133 N133]
  show own_Go p e below _ (s₁.setTop (mkF m 3 #[.val (.ref b), .val (.int (32 : Int32)), .unset] [(.int n), (.int (32 : Int32))]))
  refine own_st (fun u_ k_ => XS.icmpYes X0.here hx rfl (pc0 := 3) (pc' := 14) rfl (hb hby own_d_jdk_65_121_3) rfl (XT.ii_ne_t (own_ne32 hn)) (by decide) (by decide) k_) ?_
  show own_Go p e below _ (s₁.setTop (mkF m 14 #[.val (.ref b), .val (.int (32 : Int32)), .unset] []))
  refine own_st (fun u_ k_ => XS.iloadN X0.here hx rfl (hb hby own_d_jdk_65_121_14) rfl k_) ?_
  show own_Go p e below _ (s₁.setTop (mkF m 15 #[.val (.ref b), .val (.int (32 : Int32)), .unset] [(.int (32 : Int32))]))
  obtain ⟨T134, h134, k134, X134, e134, E134, A134, Y134, st134⟩ := newPE X0 hx hZ (own_w hw 0 rfl) e0 (g := (mkF m 15 #[.val (.ref b), .val (.int (32 : Int32)), .unset] [(.int (32 : Int32))])) rfl (hb hby own_d_jdk_65_121_15) rfl (by decide) (cap := 32) (by decide) (by decide) (by decide) (by decide) (ad := "[B") own_lm_206
  obtain ⟨b134, g134⟩ : ∃ z, z = h0.size := ⟨_, rfl⟩
  rw [← g134] at A134 Y134 st134
  have V134 : Arv Z h134 b134 k134 .byte (32 : Int32) [(.int (0 : Int32)), (.int (0 : Int32)), (.int (0 : Int32)), (.int (0 : Int32)), (.int (0 : Int32)), (.int (0 : Int32)), (.int (0 : Int32)), (.int (0 : Int32)), (.int (0 : Int32)), (.int (0 : Int32)), (.int (0 : Int32)), (.int (0 : Int32)), (.int (0 : Int32)), (.int (0 : Int32)), (.int (0 : Int32)), (.int (0 : Int32)), (.int (0 : Int32)), (.int (0 : Int32)), (.int (0 : Int32)), (.int (0 : Int32)), (.int (0 : Int32)), (.int (0 : Int32)), (.int (0 : Int32)), (.int (0 : Int32)), (.int (0 : Int32)), (.int (0 : Int32)), (.int (0 : Int32)), (.int (0 : Int32)), (.int (0 : Int32)), (.int (0 : Int32)), (.int (0 : Int32)), (.int (0 : Int32))] (.int (0 : Int32)) := (Arv.new A134 (by decide)).pad (pad_rep [] (.int (0 : Int32)) 32)
  refine own_st (fun u_ k_ => st134 u_ k_) ?_
  show own_Go p e below _ (T134.setTop (mkF m 17 #[.val (.ref b), .val (.int (32 : Int32)), .unset] [(.ref b134)]))
  refine own_st (fun u_ k_ => XS.astoreN X134.here hx rfl (hb hby own_d_jdk_65_121_17) rfl rfl (l' := #[.val (.ref b), .val (.int (32 : Int32)), .val (.ref b134)]) rfl k_) ?_
  show own_Go p e below _ (T134.setTop (mkF m 18 #[.val (.ref b), .val (.int (32 : Int32)), .val (.ref b134)] []))
  refine own_st (fun u_ k_ => XS.aloadN X134.here hx rfl (hb hby own_d_jdk_65_121_18) rfl rfl k_) ?_
  show own_Go p e below _ (T134.setTop (mkF m 19 #[.val (.ref b), .val (.int (32 : Int32)), .val (.ref b134)] [(.ref b)]))
  refine own_st (fun u_ k_ => XS.iconst X134.here hx rfl (hb hby own_d_jdk_65_121_19) k_) ?_
  show own_Go p e below _ (T134.setTop (mkF m 20 #[.val (.ref b), .val (.int (32 : Int32)), .val (.ref b134)] [(.int (0 : Int32)), (.ref b)]))
  refine own_st (fun u_ k_ => XS.aloadN X134.here hx rfl (hb hby own_d_jdk_65_121_20) rfl rfl k_) ?_
  show own_Go p e below _ (T134.setTop (mkF m 21 #[.val (.ref b), .val (.int (32 : Int32)), .val (.ref b134)] [(.ref b134), (.int (0 : Int32)), (.ref b)]))
  refine own_st (fun u_ k_ => XS.iconst X134.here hx rfl (hb hby own_d_jdk_65_121_21) k_) ?_
  show own_Go p e below _ (T134.setTop (mkF m 22 #[.val (.ref b), .val (.int (32 : Int32)), .val (.ref b134)] [(.int (0 : Int32)), (.ref b134), (.int (0 : Int32)), (.ref b)]))
  refine own_st (fun u_ k_ => XS.aloadN X134.here hx rfl (hb hby own_d_jdk_65_121_22) rfl rfl k_) ?_
  show own_Go p e below _ (T134.setTop (mkF m 23 #[.val (.ref b), .val (.int (32 : Int32)), .val (.ref b134)] [(.ref b), (.int (0 : Int32)), (.ref b134), (.int (0 : Int32)), (.ref b)]))
  have F135 := (V.ext E134)
  obtain ⟨cl136, Ar136, -, S136, N136, -, -⟩ := id F135
  refine own_st (X134.arraylength hx (by rw [e134]; exact Ar136.1) (State.isArrayOf_alike hZ.alike Ar136.2.1) (g := (mkF m 23 #[.val (.ref b), .val (.int (32 : Int32)), .val (.ref b134)] [(.ref b), (.int (0 : Int32)), (.ref b134), (.int (0 : Int32)), (.ref b)])) rfl rfl (hb hby own_d_jdk_65_121_23)) ?_
  rw [len_of S136 N136]
  show own_Go p e below _ (T134.setTop (mkF m 24 #[.val (.ref b), .val (.int (32 : Int32)), .val (.ref b134)] [(.int n), (.int (0 : Int32)), (.ref b134), (.int (0 : Int32)), (.ref b)]))
  refine own_st (fun u_ k_ => XS.iloadN X134.here hx rfl (hb hby own_d_jdk_65_121_24) rfl k_) ?_
  show own_Go p e below _ (T134.setTop (mkF m 25 #[.val (.ref b), .val (.int (32 : Int32)), .val (.ref b134)] [(.int (32 : Int32)), (.int n), (.int (0 : Int32)), (.ref b134), (.int (0 : Int32)), (.ref b)]))
  have O138 : Old Z n0 h134 := O0.ext E134
  obtain ⟨T137, v137, L137, X137, hQ137, st137⟩ := own_callS X134 hx hZ (y := own_y_198) hown (own_w hw 33 rfl) (own_w hw 34 rfl) (own_w hw 35 rfl) (own_w hw 36 rfl) own_lm_216 (rmMin l Z a0 hw [] we hS n h134 n0 O138 (own_gt32 hn)) e134 own_pd_217 (argsL := [(.int n), (.int (32 : Int32))]) (rest := [(.int (0 : Int32)), (.ref b134), (.int (0 : Int32)), (.ref b)]) rfl rfl (g := (mkF m 25 #[.val (.ref b), .val (.int (32 : Int32)), .val (.ref b134)] [(.int (32 : Int32)), (.int n), (.int (0 : Int32)), (.ref b134), (.int (0 : Int32)), (.ref b)])) rfl (by rw [hml]; rfl) rfl (hb hby own_d_jdk_65_121_25) (W := 4) rfl (by decide) (by decide) (by decide) (by decide)
  obtain ⟨rfl, M137, e137⟩ := hQ137
  have N137 := Fr.app N0 M137
  refine own_st (fun u_ k_ => st137 u_ k_) ?_
  show own_Go p e below _ (T137.setTop (mkF m 28 #[.val (.ref b), .val (.int (32 : Int32)), .val (.ref b134)] [(.int (32 : Int32)), (.int (0 : Int32)), (.ref b134), (.int (0 : Int32)), (.ref b)]))
  have g140 : n0 ≤ b134 := Nat.le_trans (own_nl O0) (Nat.le_of_eq g134.symm)
  obtain ⟨T139, h139, L139, X139, e139, N139, K139, V139, st139⟩ := cpA X137 hx hZ hown (own_w hw 37 rfl) (own_w hw 40 rfl) (own_w hw 38 rfl) (own_w hw 39 rfl) e137 F135 V134 (us := [(vs.getD 0 (.int (0 : Int32))), (vs.getD 1 (.int (0 : Int32))), (vs.getD 2 (.int (0 : Int32))), (vs.getD 3 (.int (0 : Int32))), (vs.getD 4 (.int (0 : Int32))), (vs.getD 5 (.int (0 : Int32))), (vs.getD 6 (.int (0 : Int32))), (vs.getD 7 (.int (0 : Int32))), (vs.getD 8 (.int (0 : Int32))), (vs.getD 9 (.int (0 : Int32))), (vs.getD 10 (.int (0 : Int32))), (vs.getD 11 (.int (0 : Int32))), (vs.getD 12 (.int (0 : Int32))), (vs.getD 13 (.int (0 : Int32))), (vs.getD 14 (.int (0 : Int32))), (vs.getD 15 (.int (0 : Int32))), (vs.getD 16 (.int (0 : Int32))), (vs.getD 17 (.int (0 : Int32))), (vs.getD 18 (.int (0 : Int32))), (vs.getD 19 (.int (0 : Int32))), (vs.getD 20 (.int (0 : Int32))), (vs.getD 21 (.int (0 : Int32))), (vs.getD 22 (.int (0 : Int32))), (vs.getD 23 (.int (0 : Int32))), (vs.getD 24 (.int (0 : Int32))), (vs.getD 25 (.int (0 : Int32))), (vs.getD 26 (.int (0 : Int32))), (vs.getD 27 (.int (0 : Int32))), (vs.getD 28 (.int (0 : Int32))), (vs.getD 29 (.int (0 : Int32))), (vs.getD 30 (.int (0 : Int32))), (vs.getD 31 (.int (0 : Int32)))]) (Or.inl ⟨rfl, rfl⟩) (by decide) (by decide) (by decide) (own_le32 hn) (by decide) rfl (by decide) N137 g140 (g := (mkF m 28 #[.val (.ref b), .val (.int (32 : Int32)), .val (.ref b134)] [(.int (32 : Int32)), (.int (0 : Int32)), (.ref b134), (.int (0 : Int32)), (.ref b)])) rfl (by rw [hml]; rfl) rfl (hb hby own_d_jdk_65_121_28) (by decide) (W := 0) (by show 2 * 0 + _ ≤ _; exact Nat.le_of_eq rfl) (by decide)
  have V141 : Arv Z h139 b134 k134 .byte (32 : Int32) [(vs.getD 0 (.int (0 : Int32))), (vs.getD 1 (.int (0 : Int32))), (vs.getD 2 (.int (0 : Int32))), (vs.getD 3 (.int (0 : Int32))), (vs.getD 4 (.int (0 : Int32))), (vs.getD 5 (.int (0 : Int32))), (vs.getD 6 (.int (0 : Int32))), (vs.getD 7 (.int (0 : Int32))), (vs.getD 8 (.int (0 : Int32))), (vs.getD 9 (.int (0 : Int32))), (vs.getD 10 (.int (0 : Int32))), (vs.getD 11 (.int (0 : Int32))), (vs.getD 12 (.int (0 : Int32))), (vs.getD 13 (.int (0 : Int32))), (vs.getD 14 (.int (0 : Int32))), (vs.getD 15 (.int (0 : Int32))), (vs.getD 16 (.int (0 : Int32))), (vs.getD 17 (.int (0 : Int32))), (vs.getD 18 (.int (0 : Int32))), (vs.getD 19 (.int (0 : Int32))), (vs.getD 20 (.int (0 : Int32))), (vs.getD 21 (.int (0 : Int32))), (vs.getD 22 (.int (0 : Int32))), (vs.getD 23 (.int (0 : Int32))), (vs.getD 24 (.int (0 : Int32))), (vs.getD 25 (.int (0 : Int32))), (vs.getD 26 (.int (0 : Int32))), (vs.getD 27 (.int (0 : Int32))), (vs.getD 28 (.int (0 : Int32))), (vs.getD 29 (.int (0 : Int32))), (vs.getD 30 (.int (0 : Int32))), (vs.getD 31 (.int (0 : Int32)))] (.int (0 : Int32)) := V139
  refine own_st (fun u_ k_ => st139 u_ k_) ?_
  show own_Go p e below _ (T139.setTop (mkF m 31 #[.val (.ref b), .val (.int (32 : Int32)), .val (.ref b134)] []))
  refine own_st (fun u_ k_ => XS.aloadN X139.here hx rfl (hb hby own_d_jdk_65_121_31) rfl rfl k_) ?_
  show own_Go p e below _ (T139.setTop (mkF m 32 #[.val (.ref b), .val (.int (32 : Int32)), .val (.ref b134)] [(.ref b134)]))
  have K142 : Keep h0 h134 [] := (Keep.refl h0 []).ext E134
  have z144 : h0.size ≤ b134 := Nat.le_trans (Nat.le_refl _) (Nat.le_of_eq g134.symm)
  have K143 : Keep h0 h139 [] := K142.trans K139 (allS (Or.inr z144) all0)
  have F145 := (Y134.keep K139)
  exact own_retX X139 hx hlk hret rfl (Or.inr (Or.inr (Or.inr (Or.inr ⟨rfl, rfl, rfl⟩)))) (hb hby own_d_jdk_65_121_32) (by decide) (by decide) (show QrmCp Z we b kb n vs h0 n0 (some (.ref b134)) T139.heap _ from (by rw [e139]; exact ⟨b134, k134, rfl, N139, K143, z144, V141, F145⟩))
theorem own_d_prog_14_1_0 : decode prog_14_method_1_code 0 = .ok (.aload_n 0, 1) := by decide +kernel
theorem own_d_prog_14_1_1 : decode prog_14_method_1_code 1 = .ok (.invokespecial 1, 3) := by decide +kernel
theorem own_d_prog_14_1_4 : decode prog_14_method_1_code 4 = .ok (.aload_n 0, 1) := by decide +kernel
theorem own_d_prog_14_1_5 : decode prog_14_method_1_code 5 = .ok (.aload_n 1, 1) := by decide +kernel
theorem own_d_prog_14_1_6 : decode prog_14_method_1_code 6 = .ok (.bipush 32, 2) := by decide +kernel
theorem own_d_prog_14_1_8 : decode prog_14_method_1_code 8 = .ok (.invokestatic 9, 3) := by decide +kernel
theorem own_lm_229 : ("java/util/Arrays" : String) ≠ "java/lang/invoke/MethodHandle" ∧ ("java/util/Arrays" : String) ≠ "java/lang/invoke/VarHandle" := by decide +kernel
theorem own_pd_230 : parseMethodDescriptor "([BI)[B" = some ⟨[(.array .byte), .int], some (.array .byte)⟩ := by decide +kernel
theorem own_d_prog_14_1_11 : decode prog_14_method_1_code 11 = .ok (.putfield 15, 3) := by decide +kernel
theorem own_lm_232 : parseFieldDescriptor "[B" = some (.array .byte) := by decide +kernel
theorem own_d_prog_14_1_14 : decode prog_14_method_1_code 14 = .ok (.aload_n 0, 1) := by decide +kernel
theorem own_d_prog_14_1_15 : decode prog_14_method_1_code 15 = .ok (.aload_n 1, 1) := by decide +kernel
theorem own_d_prog_14_1_16 : decode prog_14_method_1_code 16 = .ok (.bipush 33, 2) := by decide +kernel
theorem own_d_prog_14_1_18 : decode prog_14_method_1_code 18 = .ok (.iconst 4, 1) := by decide +kernel
theorem own_d_prog_14_1_19 : decode prog_14_method_1_code 19 = .ok (.invokestatic 19, 3) := by decide +kernel
theorem own_lm_238 : ("com/example/tasdik/tasdik/core/appattest/AuthenticatorData" : String) ≠ "java/lang/invoke/MethodHandle" ∧ ("com/example/tasdik/tasdik/core/appattest/AuthenticatorData" : String) ≠ "java/lang/invoke/VarHandle" := by decide +kernel
theorem own_pd_239 : parseMethodDescriptor "([BII)J" = some ⟨[(.array .byte), .int, .int], some .long⟩ := by decide +kernel
theorem own_d_prog_14_1_22 : decode prog_14_method_1_code 22 = .ok (.putfield 23, 3) := by decide +kernel
theorem own_lm_241 : ("counter" : String) ≠ "rpIdHash" := by decide +kernel
theorem own_lm_242 : parseFieldDescriptor "J" = some .long := by decide +kernel
def own_sn_243 {Z : State} {a0 : Array Value} (hw : own_H a0 Z) := slot_ne (Or.inr (own_w hw 47 rfl)) (Or.inr (own_w hw 42 rfl)) own_lm_241 (t := .long) (t' := (.array .byte)) own_lm_242 own_lm_232
theorem own_d_prog_14_1_25 : decode prog_14_method_1_code 25 = .ok (.aload_n 0, 1) := by decide +kernel
theorem own_d_prog_14_1_26 : decode prog_14_method_1_code 26 = .ok (.aload_n 2, 1) := by decide +kernel
theorem own_d_prog_14_1_27 : decode prog_14_method_1_code 27 = .ok (.putfield 27, 3) := by decide +kernel
theorem own_lm_247 : ("aaguid" : String) ≠ "rpIdHash" := by decide +kernel
def own_sn_248 {Z : State} {a0 : Array Value} (hw : own_H a0 Z) := slot_ne (Or.inr (own_w hw 49 rfl)) (Or.inr (own_w hw 42 rfl)) own_lm_247 (t := (.array .byte)) (t' := (.array .byte)) own_lm_232 own_lm_232
theorem own_lm_249 : ("aaguid" : String) ≠ "counter" := by decide +kernel
def own_sn_250 {Z : State} {a0 : Array Value} (hw : own_H a0 Z) := slot_ne (Or.inr (own_w hw 49 rfl)) (Or.inr (own_w hw 47 rfl)) own_lm_249 (t := (.array .byte)) (t' := .long) own_lm_232 own_lm_242
theorem own_d_prog_14_1_30 : decode prog_14_method_1_code 30 = .ok (.aload_n 0, 1) := by decide +kernel
theorem own_d_prog_14_1_31 : decode prog_14_method_1_code 31 = .ok (.aload_n 3, 1) := by decide +kernel
theorem own_d_prog_14_1_32 : decode prog_14_method_1_code 32 = .ok (.putfield 30, 3) := by decide +kernel
theorem own_lm_254 : ("credentialId" : String) ≠ "rpIdHash" := by decide +kernel
def own_sn_255 {Z : State} {a0 : Array Value} (hw : own_H a0 Z) := slot_ne (Or.inr (own_w hw 51 rfl)) (Or.inr (own_w hw 42 rfl)) own_lm_254 (t := (.array .byte)) (t' := (.array .byte)) own_lm_232 own_lm_232
theorem own_lm_256 : ("credentialId" : String) ≠ "counter" := by decide +kernel
def own_sn_257 {Z : State} {a0 : Array Value} (hw : own_H a0 Z) := slot_ne (Or.inr (own_w hw 51 rfl)) (Or.inr (own_w hw 47 rfl)) own_lm_256 (t := (.array .byte)) (t' := .long) own_lm_232 own_lm_242
theorem own_lm_258 : ("credentialId" : String) ≠ "aaguid" := by decide +kernel
def own_sn_259 {Z : State} {a0 : Array Value} (hw : own_H a0 Z) := slot_ne (Or.inr (own_w hw 51 rfl)) (Or.inr (own_w hw 49 rfl)) own_lm_258 (t := (.array .byte)) (t' := (.array .byte)) own_lm_232 own_lm_232
theorem own_d_prog_14_1_35 : decode prog_14_method_1_code 35 = .ok (.return_, 1) := by decide +kernel
theorem own_lm_261 : ("rpIdHash" : String) ≠ "counter" := by decide +kernel
def own_sn_262 {Z : State} {a0 : Array Value} (hw : own_H a0 Z) := slot_ne (Or.inr (own_w hw 42 rfl)) (Or.inr (own_w hw 47 rfl)) own_lm_261 (t := (.array .byte)) (t' := .long) own_lm_232 own_lm_242
theorem own_lm_263 : ("rpIdHash" : String) ≠ "aaguid" := by decide +kernel
def own_sn_264 {Z : State} {a0 : Array Value} (hw : own_H a0 Z) := slot_ne (Or.inr (own_w hw 42 rfl)) (Or.inr (own_w hw 49 rfl)) own_lm_263 (t := (.array .byte)) (t' := (.array .byte)) own_lm_232 own_lm_232
theorem own_lm_265 : ("rpIdHash" : String) ≠ "credentialId" := by decide +kernel
def own_sn_266 {Z : State} {a0 : Array Value} (hw : own_H a0 Z) := slot_ne (Or.inr (own_w hw 42 rfl)) (Or.inr (own_w hw 51 rfl)) own_lm_265 (t := (.array .byte)) (t' := (.array .byte)) own_lm_232 own_lm_232
theorem own_lm_267 : ("counter" : String) ≠ "aaguid" := by decide +kernel
def own_sn_268 {Z : State} {a0 : Array Value} (hw : own_H a0 Z) := slot_ne (Or.inr (own_w hw 47 rfl)) (Or.inr (own_w hw 49 rfl)) own_lm_267 (t := .long) (t' := (.array .byte)) own_lm_242 own_lm_232
theorem own_lm_269 : ("counter" : String) ≠ "credentialId" := by decide +kernel
def own_sn_270 {Z : State} {a0 : Array Value} (hw : own_H a0 Z) := slot_ne (Or.inr (own_w hw 47 rfl)) (Or.inr (own_w hw 51 rfl)) own_lm_269 (t := .long) (t' := (.array .byte)) own_lm_242 own_lm_232
abbrev own_y_271 : MethodName := ⟨"com/example/tasdik/tasdik/core/appattest/AuthenticatorData", "<init>", "([B[B[B)V"⟩
theorem own_ef_rmI (m : MethodId) (a : Addr) (b : Addr) (n : Int32)  : entryFrame m #[(.ref a), (.ref b), .null, .null] 4 = mkF m 0 #[.val (.ref a), .val (.ref b), .val .null, .val .null] [] := by first | (simp [entryFrame, mkF, argsToLocals, Value.category, maxLocals]; done) | rfl
def QrmI (Z : State) (we : Addr) (a : Addr) (b : Addr) (kb : ClassId) (n : Int32) (vs : List Value) (w0 : Int32) (w1 : Int32) (w2 : Int32) (w3 : Int32) (h0 : Heap) (n0 : Nat) (v : Option Value) (h : Heap) (L : List Loc) : Prop := ∃ r3 : Addr, ∃ k3 : ClassId, v = none ∧ Fr n0 L ∧ Keep h0 h [a] ∧ h0.size ≤ r3 ∧ Exa Z h a "com/example/tasdik/tasdik/core/appattest/AuthenticatorData" ∧ Fld Z h a "com/example/tasdik/tasdik/core/appattest/AuthenticatorData" "rpIdHash" "[B" (.ref r3) ∧ Fld Z h a "com/example/tasdik/tasdik/core/appattest/AuthenticatorData" "counter" "J" (.long (((((((((0 : Int64) <<< ((8 : Int32) &&& 0x3f).toInt64) ||| ((w0 &&& (255 : Int32)).toInt64)) <<< ((8 : Int32) &&& 0x3f).toInt64) ||| ((w1 &&& (255 : Int32)).toInt64)) <<< ((8 : Int32) &&& 0x3f).toInt64) ||| ((w2 &&& (255 : Int32)).toInt64)) <<< ((8 : Int32) &&& 0x3f).toInt64) ||| ((w3 &&& (255 : Int32)).toInt64))) ∧ Arv Z h r3 k3 .byte (32 : Int32) [(vs.getD 0 (.int (0 : Int32))), (vs.getD 1 (.int (0 : Int32))), (vs.getD 2 (.int (0 : Int32))), (vs.getD 3 (.int (0 : Int32))), (vs.getD 4 (.int (0 : Int32))), (vs.getD 5 (.int (0 : Int32))), (vs.getD 6 (.int (0 : Int32))), (vs.getD 7 (.int (0 : Int32))), (vs.getD 8 (.int (0 : Int32))), (vs.getD 9 (.int (0 : Int32))), (vs.getD 10 (.int (0 : Int32))), (vs.getD 11 (.int (0 : Int32))), (vs.getD 12 (.int (0 : Int32))), (vs.getD 13 (.int (0 : Int32))), (vs.getD 14 (.int (0 : Int32))), (vs.getD 15 (.int (0 : Int32))), (vs.getD 16 (.int (0 : Int32))), (vs.getD 17 (.int (0 : Int32))), (vs.getD 18 (.int (0 : Int32))), (vs.getD 19 (.int (0 : Int32))), (vs.getD 20 (.int (0 : Int32))), (vs.getD 21 (.int (0 : Int32))), (vs.getD 22 (.int (0 : Int32))), (vs.getD 23 (.int (0 : Int32))), (vs.getD 24 (.int (0 : Int32))), (vs.getD 25 (.int (0 : Int32))), (vs.getD 26 (.int (0 : Int32))), (vs.getD 27 (.int (0 : Int32))), (vs.getD 28 (.int (0 : Int32))), (vs.getD 29 (.int (0 : Int32))), (vs.getD 30 (.int (0 : Int32))), (vs.getD 31 (.int (0 : Int32)))] (.int (0 : Int32)) ∧ Exa Z h r3 "[B"
set_option maxRecDepth 65536 in
set_option maxHeartbeats 40000000 in
theorem rmI (l : Launch) (Z : State) (a0 : Array Value) (hw : own_H a0 Z) (ws : List Jvm.Cond) (we : Addr) (hS : own_S Z we) (a : Addr) (b : Addr) (kb : ClassId) (n : Int32) (vs : List Value) (w0 : Int32) (w1 : Int32) (w2 : Int32) (w3 : Int32) (h0 : Heap) (n0 : Nat) (O0 : Old Z n0 h0) (E : Exa Z h0 a "com/example/tasdik/tasdik/core/appattest/AuthenticatorData") (ga : n0 ≤ a) (F0 : Fld Z h0 a "com/example/tasdik/tasdik/core/appattest/AuthenticatorData" "rpIdHash" "[B" .null) (F1 : Fld Z h0 a "com/example/tasdik/tasdik/core/appattest/AuthenticatorData" "counter" "J" (.long (0 : Int64))) (F2 : Fld Z h0 a "com/example/tasdik/tasdik/core/appattest/AuthenticatorData" "aaguid" "[B" .null) (F3 : Fld Z h0 a "com/example/tasdik/tasdik/core/appattest/AuthenticatorData" "credentialId" "[B" .null) (V : Arv Z h0 b kb .byte n vs (.int (0 : Int32))) (hn : ¬ n < (37 : Int32)) (e_0 : vs.getD 33 (.int (0 : Int32)) = .int w0) (e_1 : vs.getD 34 (.int (0 : Int32)) = .int w1) (e_2 : vs.getD 35 (.int (0 : Int32)) = .int w2) (e_3 : vs.getD 36 (.int (0 : Int32)) = .int w3) :
    own_Met l own_y_271 prog_14_method_1_code 4 none ws ({ frames := 2, cells := 1, slots := 32, locals := 42 } : Room) Z h0 #[(.ref a), (.ref b), .null, .null] (QrmI Z we a b kb n vs w0 w1 w2 w3 h0 n0) := by
  refine own_body (plainFor_of_name own_pn_192) ?_
  intro p e s m below meth c s₁ hx hby hml hown hnm hret hlk hZ e0 X0
  have N0 := Fr.nil n0
  refine own_st (fun u_ k_ => castTop (own_ef_rmI m a b n) k_) ?_
  show own_Go p e below _ (s₁.setTop (mkF m 0 #[.val (.ref a), .val (.ref b), .val .null, .val .null] []))
  refine own_st (fun u_ k_ => XS.aloadN X0.here hx rfl (hb hby own_d_prog_14_1_0) rfl rfl k_) ?_
  show own_Go p e below _ (s₁.setTop (mkF m 1 #[.val (.ref a), .val (.ref b), .val .null, .val .null] [(.ref a)]))
  obtain ⟨T146, X146, e146, st146⟩ := initO X0 hx hZ hown (own_w hw 26 rfl) (own_w hw 27 rfl) (own_w hw 28 rfl) e0 (g := (mkF m 1 #[.val (.ref a), .val (.ref b), .val .null, .val .null] [(.ref a)])) rfl (by rw [hml]; rfl) rfl (hb hby own_d_prog_14_1_1) (by decide) (W := 0) (by show 2 * 0 + _ ≤ _; exact Nat.le_of_eq rfl) (by decide)
  refine own_st (fun u_ k_ => st146 u_ k_) ?_
  show own_Go p e below _ (T146.setTop (mkF m 4 #[.val (.ref a), .val (.ref b), .val .null, .val .null] []))
  refine own_st (fun u_ k_ => XS.aloadN X146.here hx rfl (hb hby own_d_prog_14_1_4) rfl rfl k_) ?_
  show own_Go p e below _ (T146.setTop (mkF m 5 #[.val (.ref a), .val (.ref b), .val .null, .val .null] [(.ref a)]))
  refine own_st (fun u_ k_ => XS.aloadN X146.here hx rfl (hb hby own_d_prog_14_1_5) rfl rfl k_) ?_
  show own_Go p e below _ (T146.setTop (mkF m 6 #[.val (.ref a), .val (.ref b), .val .null, .val .null] [(.ref b), (.ref a)]))
  refine own_st (fun u_ k_ => XS.bipush X146.here hx rfl (hb hby own_d_prog_14_1_6) k_) ?_
  show own_Go p e below _ (T146.setTop (mkF m 8 #[.val (.ref a), .val (.ref b), .val .null, .val .null] [(.int (32 : Int32)), (.ref b), (.ref a)]))
  obtain ⟨T147, v147, L147, X147, hQ147, st147⟩ := own_callS X146 hx hZ (y := own_y_221) hown (own_w hw 29 rfl) (own_w hw 30 rfl) (own_w hw 31 rfl) (own_w hw 32 rfl) own_lm_229 (rmCp l Z a0 hw [] we hS b kb n vs h0 n0 O0 V hn) e146 own_pd_230 (argsL := [(.ref b), (.int (32 : Int32))]) (rest := [(.ref a)]) rfl rfl (g := (mkF m 8 #[.val (.ref a), .val (.ref b), .val .null, .val .null] [(.int (32 : Int32)), (.ref b), (.ref a)])) rfl (by rw [hml]; rfl) rfl (hb hby own_d_prog_14_1_8) (W := 1) rfl (by decide) (by decide) (by decide) (by decide)
  obtain ⟨r_148, kr_149, rfl, M147, K147, z150, F151, F152⟩ := hQ147
  have N147 := Fr.app N0 M147
  refine own_st (fun u_ k_ => st147 u_ k_) ?_
  show own_Go p e below _ (T147.setTop (mkF m 11 #[.val (.ref a), .val (.ref b), .val .null, .val .null] [(.ref r_148), (.ref a)]))
  have F153 := (E.keep K147)
  have F154 := (F0.keep K147 nin0)
  obtain ⟨T155, h155, X155, e155, W155, st155⟩ := putF X147 hx hZ hown (host := "") (Or.inl (own_w hw 41 rfl)) Via.refl rfl F154 F153 (Or.inr ⟨(own_w hw 42 rfl), rfl, hnm⟩) (own_w hw 22 rfl) (ty := (.array .byte)) own_lm_232 rfl rfl (g := (mkF m 11 #[.val (.ref a), .val (.ref b), .val .null, .val .null] [(.ref r_148), (.ref a)])) rfl rfl (hb hby own_d_prog_14_1_11)
  have N155 := Fr.snoc X155 N147 ga
  have F156 : Fld Z h155 a "com/example/tasdik/tasdik/core/appattest/AuthenticatorData" "rpIdHash" "[B" (.ref r_148) := Fld.same W155 F154
  refine own_st (fun u_ k_ => st155 u_ k_) ?_
  show own_Go p e below _ (T155.setTop (mkF m 14 #[.val (.ref a), .val (.ref b), .val .null, .val .null] []))
  refine own_st (fun u_ k_ => XS.aloadN X155.here hx rfl (hb hby own_d_prog_14_1_14) rfl rfl k_) ?_
  show own_Go p e below _ (T155.setTop (mkF m 15 #[.val (.ref a), .val (.ref b), .val .null, .val .null] [(.ref a)]))
  refine own_st (fun u_ k_ => XS.aloadN X155.here hx rfl (hb hby own_d_prog_14_1_15) rfl rfl k_) ?_
  show own_Go p e below _ (T155.setTop (mkF m 16 #[.val (.ref a), .val (.ref b), .val .null, .val .null] [(.ref b), (.ref a)]))
  refine own_st (fun u_ k_ => XS.bipush X155.here hx rfl (hb hby own_d_prog_14_1_16) k_) ?_
  show own_Go p e below _ (T155.setTop (mkF m 18 #[.val (.ref a), .val (.ref b), .val .null, .val .null] [(.int (33 : Int32)), (.ref b), (.ref a)]))
  refine own_st (fun u_ k_ => XS.iconst X155.here hx rfl (hb hby own_d_prog_14_1_18) k_) ?_
  show own_Go p e below _ (T155.setTop (mkF m 19 #[.val (.ref a), .val (.ref b), .val .null, .val .null] [(.int (4 : Int32)), (.int (33 : Int32)), (.ref b), (.ref a)]))
  have ne157 : b ≠ a := (Ne.symm (let ⟨_, q, _⟩ := V; ne_arr E (own_w hw 22 rfl) q))
  have F158 := ((V.keep K147 nin0).other W155 ne157)
  have O160 : Old Z n0 T147.heap := O0.keep K147 all0
  have O161 : Old Z n0 h155 := O160.wr W155 ga
  obtain ⟨T159, v159, L159, X159, hQ159, st159⟩ := own_callS X155 hx hZ (y := own_y_191) hown (own_w hw 43 rfl) (own_w hw 44 rfl) (own_w hw 3 rfl) (own_w hw 45 rfl) own_lm_238 (rmBE l Z a0 hw [] we hS b kb n vs w0 w1 w2 w3 h155 n0 O161 F158 hn e_0 e_1 e_2 e_3) e155 own_pd_239 (argsL := [(.ref b), (.int (33 : Int32)), (.int (4 : Int32))]) (rest := [(.ref a)]) rfl rfl (g := (mkF m 19 #[.val (.ref a), .val (.ref b), .val .null, .val .null] [(.int (4 : Int32)), (.int (33 : Int32)), (.ref b), (.ref a)])) rfl (by rw [hml]; rfl) rfl (hb hby own_d_prog_14_1_19) (W := 1) rfl (by decide) (by decide) (by decide) (by decide)
  obtain ⟨rfl, M159, e159⟩ := hQ159
  have N159 := Fr.app N155 M159
  refine own_st (fun u_ k_ => st159 u_ k_) ?_
  show own_Go p e below _ (T159.setTop (mkF m 22 #[.val (.ref a), .val (.ref b), .val .null, .val .null] [(.long (((((((((0 : Int64) <<< ((8 : Int32) &&& 0x3f).toInt64) ||| ((w0 &&& (255 : Int32)).toInt64)) <<< ((8 : Int32) &&& 0x3f).toInt64) ||| ((w1 &&& (255 : Int32)).toInt64)) <<< ((8 : Int32) &&& 0x3f).toInt64) ||| ((w2 &&& (255 : Int32)).toInt64)) <<< ((8 : Int32) &&& 0x3f).toInt64) ||| ((w3 &&& (255 : Int32)).toInt64))), (.ref a)]))
  have F162 := (Exa.wr W155 F153)
  have F163 := (Fld.other W155 (F1.keep K147 nin0) (Or.inr (own_sn_243 hw)))
  obtain ⟨T164, h164, X164, e164, W164, st164⟩ := putF X159 hx hZ hown (host := "") (Or.inl (own_w hw 46 rfl)) Via.refl e159 F163 F162 (Or.inr ⟨(own_w hw 47 rfl), rfl, hnm⟩) (own_w hw 22 rfl) (ty := .long) own_lm_242 rfl rfl (g := (mkF m 22 #[.val (.ref a), .val (.ref b), .val .null, .val .null] [(.long (((((((((0 : Int64) <<< ((8 : Int32) &&& 0x3f).toInt64) ||| ((w0 &&& (255 : Int32)).toInt64)) <<< ((8 : Int32) &&& 0x3f).toInt64) ||| ((w1 &&& (255 : Int32)).toInt64)) <<< ((8 : Int32) &&& 0x3f).toInt64) ||| ((w2 &&& (255 : Int32)).toInt64)) <<< ((8 : Int32) &&& 0x3f).toInt64) ||| ((w3 &&& (255 : Int32)).toInt64))), (.ref a)])) rfl rfl (hb hby own_d_prog_14_1_22)
  have N164 := Fr.snoc X164 N159 ga
  have F165 : Fld Z h164 a "com/example/tasdik/tasdik/core/appattest/AuthenticatorData" "counter" "J" (.long (((((((((0 : Int64) <<< ((8 : Int32) &&& 0x3f).toInt64) ||| ((w0 &&& (255 : Int32)).toInt64)) <<< ((8 : Int32) &&& 0x3f).toInt64) ||| ((w1 &&& (255 : Int32)).toInt64)) <<< ((8 : Int32) &&& 0x3f).toInt64) ||| ((w2 &&& (255 : Int32)).toInt64)) <<< ((8 : Int32) &&& 0x3f).toInt64) ||| ((w3 &&& (255 : Int32)).toInt64))) := Fld.same W164 F163
  refine own_st (fun u_ k_ => st164 u_ k_) ?_
  show own_Go p e below _ (T164.setTop (mkF m 25 #[.val (.ref a), .val (.ref b), .val .null, .val .null] []))
  refine own_st (fun u_ k_ => XS.aloadN X164.here hx rfl (hb hby own_d_prog_14_1_25) rfl rfl k_) ?_
  show own_Go p e below _ (T164.setTop (mkF m 26 #[.val (.ref a), .val (.ref b), .val .null, .val .null] [(.ref a)]))
  refine own_st (fun u_ k_ => XS.aloadN X164.here hx rfl (hb hby own_d_prog_14_1_26) rfl rfl k_) ?_
  show own_Go p e below _ (T164.setTop (mkF m 27 #[.val (.ref a), .val (.ref b), .val .null, .val .null] [.null, (.ref a)]))
  have F166 := (Exa.wr W164 F162)
  have F167 := (Fld.other W164 (Fld.other W155 (F2.keep K147 nin0) (Or.inr (own_sn_248 hw))) (Or.inr (own_sn_250 hw)))
  obtain ⟨T168, h168, X168, e168, W168, st168⟩ := putF X164 hx hZ hown (host := "") (Or.inl (own_w hw 48 rfl)) Via.refl e164 F167 F166 (Or.inr ⟨(own_w hw 49 rfl), rfl, hnm⟩) (own_w hw 22 rfl) (ty := (.array .byte)) own_lm_232 rfl rfl (g := (mkF m 27 #[.val (.ref a), .val (.ref b), .val .null, .val .null] [.null, (.ref a)])) rfl rfl (hb hby own_d_prog_14_1_27)
  have N168 := Fr.snoc X168 N164 ga
  have F169 : Fld Z h168 a "com/example/tasdik/tasdik/core/appattest/AuthenticatorData" "aaguid" "[B" .null := Fld.same W168 F167
  refine own_st (fun u_ k_ => st168 u_ k_) ?_
  show own_Go p e below _ (T168.setTop (mkF m 30 #[.val (.ref a), .val (.ref b), .val .null, .val .null] []))
  refine own_st (fun u_ k_ => XS.aloadN X168.here hx rfl (hb hby own_d_prog_14_1_30) rfl rfl k_) ?_
  show own_Go p e below _ (T168.setTop (mkF m 31 #[.val (.ref a), .val (.ref b), .val .null, .val .null] [(.ref a)]))
  refine own_st (fun u_ k_ => XS.aloadN X168.here hx rfl (hb hby own_d_prog_14_1_31) rfl rfl k_) ?_
  show own_Go p e below _ (T168.setTop (mkF m 32 #[.val (.ref a), .val (.ref b), .val .null, .val .null] [.null, (.ref a)]))
  have F170 := (Exa.wr W168 F166)
  have F171 := (Fld.other W168 (Fld.other W164 (Fld.other W155 (F3.keep K147 nin0) (Or.inr (own_sn_255 hw))) (Or.inr (own_sn_257 hw))) (Or.inr (own_sn_259 hw)))
  obtain ⟨T172, h172, X172, e172, W172, st172⟩ := putF X168 hx hZ hown (host := "") (Or.inl (own_w hw 50 rfl)) Via.refl e168 F171 F170 (Or.inr ⟨(own_w hw 51 rfl), rfl, hnm⟩) (own_w hw 22 rfl) (ty := (.array .byte)) own_lm_232 rfl rfl (g := (mkF m 32 #[.val (.ref a), .val (.ref b), .val .null, .val .null] [.null, (.ref a)])) rfl rfl (hb hby own_d_prog_14_1_32)
  have N172 := Fr.snoc X172 N168 ga
  have F173 : Fld Z h172 a "com/example/tasdik/tasdik/core/appattest/AuthenticatorData" "credentialId" "[B" .null := Fld.same W172 F171
  refine own_st (fun u_ k_ => st172 u_ k_) ?_
  show own_Go p e below _ (T172.setTop (mkF m 35 #[.val (.ref a), .val (.ref b), .val .null, .val .null] []))
  have K174 : Keep h0 T147.heap [a] := (Keep.refl h0 [a]).trans K147 all0
  have K175 : Keep h0 h155 [a] := K174.wr W155 (Or.inl (List.mem_of_getElem? (i := 0) rfl))
  have K176 : Keep h0 h164 [a] := K175.wr W164 (Or.inl (List.mem_of_getElem? (i := 0) rfl))
  have K177 : Keep h0 h168 [a] := K176.wr W168 (Or.inl (List.mem_of_getElem? (i := 0) rfl))
  have K178 : Keep h0 h172 [a] := K177.wr W172 (Or.inl (List.mem_of_getElem? (i := 0) rfl))
  have z179 : h0.size ≤ r_148 := Nat.le_trans (Nat.le_refl _) z150
  have F180 := (Exa.wr W172 F170)
  have F181 := (Fld.other W172 (Fld.other W168 (Fld.other W164 F156 (Or.inr (own_sn_262 hw))) (Or.inr (own_sn_264 hw))) (Or.inr (own_sn_266 hw)))
  have F182 := (Fld.other W172 (Fld.other W168 F165 (Or.inr (own_sn_268 hw))) (Or.inr (own_sn_270 hw)))
  have ne183 : r_148 ≠ a := (Ne.symm (Nat.ne_of_lt (Nat.lt_of_lt_of_le E.lt z150)))
  have F184 := ((((F151.other W155 ne183).other W164 ne183).other W168 ne183).other W172 ne183)
  have F185 := (Exa.wr W172 (Exa.wr W168 (Exa.wr W164 (Exa.wr W155 F152))))
  exact own_retV X172 hx hlk hret (hb hby own_d_prog_14_1_35) (by decide) (by decide) (show QrmI Z we a b kb n vs w0 w1 w2 w3 h0 n0 none T172.heap _ from (by rw [e172]; exact ⟨r_148, kr_149, rfl, N172, K178, z179, F180, F181, F182, F184, F185⟩))
theorem own_d_jdk_32_1_0 : decode jdk_32_method_1_code 0 = .ok (.getstatic 1, 3) := by decide +kernel
theorem own_d_jdk_32_1_3 : decode jdk_32_method_1_code 3 = .ok (.astore_n 0, 1) := by decide +kernel
theorem own_d_jdk_32_1_4 : decode jdk_32_method_1_code 4 = .ok (.aload_n 0, 1) := by decide +kernel
theorem own_d_jdk_32_1_5 : decode jdk_32_method_1_code 5 = .ok (.areturn, 1) := by decide +kernel
abbrev own_y_276 : MethodName := ⟨"java/util/Optional", "empty", "()Ljava/util/Optional;"⟩
theorem own_pn_277 : plainName "java/util/Optional" = true := by first | (simp [plainName, overriddenIn]; done) | decide +kernel
theorem own_ef_rmOe (m : MethodId)   : entryFrame m #[] 1 = mkF m 0 #[.unset] [] := by first | (simp [entryFrame, mkF, argsToLocals, Value.category, maxLocals]; done) | rfl
def QrmOe (Z : State) (we : Addr)  (h0 : Heap) (n0 : Nat) (v : Option Value) (h : Heap) (L : List Loc) : Prop := v = some (.ref we) ∧ Fr n0 L ∧ h = h0
set_option maxRecDepth 65536 in
set_option maxHeartbeats 40000000 in
theorem rmOe (l : Launch) (Z : State) (a0 : Array Value) (hw : own_H a0 Z) (ws : List Jvm.Cond) (we : Addr) (hS : own_S Z we)  (h0 : Heap) (n0 : Nat) (O0 : Old Z n0 h0)  :
    own_Met l own_y_276 jdk_32_method_1_code 1 (some (.object "java/util/Optional")) ws ({ frames := 0, cells := 0, slots := 0, locals := 0 } : Room) Z h0 #[] (QrmOe Z we  h0 n0) := by
  refine own_body (plainFor_of_name own_pn_277) ?_
  intro p e s m below meth c s₁ hx hby hml hown hnm hret hlk hZ e0 X0
  have N0 := Fr.nil n0
  refine own_st (fun u_ k_ => castTop (own_ef_rmOe m ) k_) ?_
  show own_Go p e below _ (s₁.setTop (mkF m 0 #[.unset] []))
  have F186 := Sta.ext O0.2 hS.1
  obtain ⟨T187, X187, e187, st187⟩ := getS2 X0 hx hZ hown (host := "") (Or.inl (own_w hw 9 rfl)) Via.refl e0 F186 (g := (mkF m 0 #[.unset] [])) rfl (hb hby own_d_jdk_32_1_0)
  refine own_st (fun u_ k_ => st187 u_ k_) ?_
  show own_Go p e below _ (T187.setTop (mkF m 3 #[.unset] [(.ref we)]))
  refine own_st (fun u_ k_ => XS.astoreN X187.here hx rfl (hb hby own_d_jdk_32_1_3) rfl rfl (l' := #[.val (.ref we)]) rfl k_) ?_
  show own_Go p e below _ (T187.setTop (mkF m 4 #[.val (.ref we)] []))
  refine own_st (fun u_ k_ => XS.aloadN X187.here hx rfl (hb hby own_d_jdk_32_1_4) rfl rfl k_) ?_
  show own_Go p e below _ (T187.setTop (mkF m 5 #[.val (.ref we)] [(.ref we)]))
  exact own_retX X187 hx hlk hret rfl (Or.inr (Or.inr (Or.inr (Or.inr ⟨rfl, rfl, rfl⟩)))) (hb hby own_d_jdk_32_1_5) (by decide) (by decide) (show QrmOe Z we  h0 n0 (some (.ref we)) T187.heap _ from (by rw [e187]; exact ⟨rfl, N0, rfl⟩))
theorem own_d_jdk_31_10_0 : decode jdk_31_method_10_code 0 = .ok (.aload_n 0, 1) := by decide +kernel
theorem own_d_jdk_31_10_1 : decode jdk_31_method_10_code 1 = .ok (.ifnonnull 11, 3) := by decide +kernel
theorem own_d_jdk_31_10_12 : decode jdk_31_method_10_code 12 = .ok (.aload_n 0, 1) := by decide +kernel
theorem own_d_jdk_31_10_13 : decode jdk_31_method_10_code 13 = .ok (.areturn, 1) := by decide +kernel
abbrev own_y_282 : MethodName := ⟨"java/util/Objects", "requireNonNull", "(Ljava/lang/Object;)Ljava/lang/Object;"⟩
theorem own_pn_283 : plainName "java/util/Objects" = true := by first | (simp [plainName, overriddenIn]; done) | decide +kernel
theorem own_ef_rmNn (m : MethodId) (a : Addr)  : entryFrame m #[(.ref a)] 1 = mkF m 0 #[.val (.ref a)] [] := by first | (simp [entryFrame, mkF, argsToLocals, Value.category, maxLocals]; done) | rfl
def QrmNn (Z : State) (we : Addr) (a : Addr) (h0 : Heap) (n0 : Nat) (v : Option Value) (h : Heap) (L : List Loc) : Prop := v = some (.ref a) ∧ Fr n0 L ∧ h = h0
set_option maxRecDepth 65536 in
set_option maxHeartbeats 40000000 in
theorem rmNn (l : Launch) (Z : State) (a0 : Array Value) (hw : own_H a0 Z) (ws : List Jvm.Cond) (we : Addr) (hS : own_S Z we) (a : Addr) (h0 : Heap) (n0 : Nat) (O0 : Old Z n0 h0)  :
    own_Met l own_y_282 jdk_31_method_10_code 1 (some (.object "java/lang/Object")) ws ({ frames := 0, cells := 0, slots := 0, locals := 0 } : Room) Z h0 #[(.ref a)] (QrmNn Z we a h0 n0) := by
  refine own_body (plainFor_of_name own_pn_283) ?_
  intro p e s m below meth c s₁ hx hby hml hown hnm hret hlk hZ e0 X0
  have N0 := Fr.nil n0
  refine own_st (fun u_ k_ => castTop (own_ef_rmNn m a) k_) ?_
  show own_Go p e below _ (s₁.setTop (mkF m 0 #[.val (.ref a)] []))
  refine own_st (fun u_ k_ => XS.aloadN X0.here hx rfl (hb hby own_d_jdk_31_10_0) rfl rfl k_) ?_
  show own_Go p e below _ (s₁.setTop (mkF m 1 #[.val (.ref a)] [(.ref a)]))
  refine own_st (fun u_ k_ => XS.ifnonnullYes X0.here hx rfl (pc0 := 1) (pc' := 12) rfl (hb hby own_d_jdk_31_10_1) rfl (by decide) (by decide) k_) ?_
  show own_Go p e below _ (s₁.setTop (mkF m 12 #[.val (.ref a)] []))
  refine own_st (fun u_ k_ => XS.aloadN X0.here hx rfl (hb hby own_d_jdk_31_10_12) rfl rfl k_) ?_
  show own_Go p e below _ (s₁.setTop (mkF m 13 #[.val (.ref a)] [(.ref a)]))
  exact own_retX X0 hx hlk hret rfl (Or.inr (Or.inr (Or.inr (Or.inr ⟨rfl, rfl, rfl⟩)))) (hb hby own_d_jdk_31_10_13) (by decide) (by decide) (show QrmNn Z we a h0 n0 (some (.ref a)) s₁.heap _ from (by rw [e0]; exact ⟨rfl, N0, rfl⟩))
theorem own_d_jdk_32_2_0 : decode jdk_32_method_2_code 0 = .ok (.aload_n 0, 1) := by decide +kernel
theorem own_d_jdk_32_2_1 : decode jdk_32_method_2_code 1 = .ok (.invokespecial 7, 3) := by decide +kernel
theorem own_d_jdk_32_2_4 : decode jdk_32_method_2_code 4 = .ok (.aload_n 0, 1) := by decide +kernel
theorem own_d_jdk_32_2_5 : decode jdk_32_method_2_code 5 = .ok (.aload_n 1, 1) := by decide +kernel
theorem own_d_jdk_32_2_6 : decode jdk_32_method_2_code 6 = .ok (.putfield 13, 3) := by decide +kernel
theorem own_lm_289 : parseFieldDescriptor "Ljava/lang/Object;" = some (.object "java/lang/Object") := by decide +kernel
theorem own_d_jdk_32_2_9 : decode jdk_32_method_2_code 9 = .ok (.return_, 1) := by decide +kernel
abbrev own_y_291 : MethodName := ⟨"java/util/Optional", "<init>", "(Ljava/lang/Object;)V"⟩
theorem own_ef_rmOi (m : MethodId) (a : Addr) (b : Addr)  : entryFrame m #[(.ref a), (.ref b)] 2 = mkF m 0 #[.val (.ref a), .val (.ref b)] [] := by first | (simp [entryFrame, mkF, argsToLocals, Value.category, maxLocals]; done) | rfl
def QrmOi (Z : State) (we : Addr) (a : Addr) (b : Addr) (h0 : Heap) (n0 : Nat) (v : Option Value) (h : Heap) (L : List Loc) : Prop := v = none ∧ Fr n0 L ∧ Keep h0 h [a] ∧ Exa Z h a "java/util/Optional" ∧ Fld Z h a "java/util/Optional" "value" "Ljava/lang/Object;" (.ref b)
set_option maxRecDepth 65536 in
set_option maxHeartbeats 40000000 in
theorem rmOi (l : Launch) (Z : State) (a0 : Array Value) (hw : own_H a0 Z) (ws : List Jvm.Cond) (we : Addr) (hS : own_S Z we) (a : Addr) (b : Addr) (h0 : Heap) (n0 : Nat) (O0 : Old Z n0 h0) (E : Exa Z h0 a "java/util/Optional") (ga : n0 ≤ a) (F : Fld Z h0 a "java/util/Optional" "value" "Ljava/lang/Object;" .null) :
    own_Met l own_y_291 jdk_32_method_2_code 2 none ws ({ frames := 1, cells := 0, slots := 0, locals := 12 } : Room) Z h0 #[(.ref a), (.ref b)] (QrmOi Z we a b h0 n0) := by
  refine own_body (plainFor_of_name own_pn_277) ?_
  intro p e s m below meth c s₁ hx hby hml hown hnm hret hlk hZ e0 X0
  have N0 := Fr.nil n0
  refine own_st (fun u_ k_ => castTop (own_ef_rmOi m a b) k_) ?_
  show own_Go p e below _ (s₁.setTop (mkF m 0 #[.val (.ref a), .val (.ref b)] []))
  refine own_st (fun u_ k_ => XS.aloadN X0.here hx rfl (hb hby own_d_jdk_32_2_0) rfl rfl k_) ?_
  show own_Go p e below _ (s₁.setTop (mkF m 1 #[.val (.ref a), .val (.ref b)] [(.ref a)]))
  obtain ⟨T188, X188, e188, st188⟩ := initO X0 hx hZ hown (own_w hw 65 rfl) (own_w hw 27 rfl) (own_w hw 28 rfl) e0 (g := (mkF m 1 #[.val (.ref a), .val (.ref b)] [(.ref a)])) rfl (by rw [hml]; rfl) rfl (hb hby own_d_jdk_32_2_1) (by decide) (W := 0) (by show 2 * 0 + _ ≤ _; exact Nat.le_of_eq rfl) (by decide)
  refine own_st (fun u_ k_ => st188 u_ k_) ?_
  show own_Go p e below _ (T188.setTop (mkF m 4 #[.val (.ref a), .val (.ref b)] []))
  refine own_st (fun u_ k_ => XS.aloadN X188.here hx rfl (hb hby own_d_jdk_32_2_4) rfl rfl k_) ?_
  show own_Go p e below _ (T188.setTop (mkF m 5 #[.val (.ref a), .val (.ref b)] [(.ref a)]))
  refine own_st (fun u_ k_ => XS.aloadN X188.here hx rfl (hb hby own_d_jdk_32_2_5) rfl rfl k_) ?_
  show own_Go p e below _ (T188.setTop (mkF m 6 #[.val (.ref a), .val (.ref b)] [(.ref b), (.ref a)]))
  obtain ⟨T189, h189, X189, e189, W189, st189⟩ := putF X188 hx hZ hown (host := "") (Or.inl (own_w hw 15 rfl)) Via.refl e188 F E (Or.inr ⟨(own_w hw 16 rfl), rfl, hnm⟩) (own_w hw 56 rfl) (ty := (.object "java/lang/Object")) own_lm_289 rfl rfl (g := (mkF m 6 #[.val (.ref a), .val (.ref b)] [(.ref b), (.ref a)])) rfl rfl (hb hby own_d_jdk_32_2_6)
  have N189 := Fr.snoc X189 N0 ga
  have F190 : Fld Z h189 a "java/util/Optional" "value" "Ljava/lang/Object;" (.ref b) := Fld.same W189 F
  refine own_st (fun u_ k_ => st189 u_ k_) ?_
  show own_Go p e below _ (T189.setTop (mkF m 9 #[.val (.ref a), .val (.ref b)] []))
  have K191 : Keep h0 h189 [a] := (Keep.refl h0 [a]).wr W189 (Or.inl (List.mem_of_getElem? (i := 0) rfl))
  have F192 := (Exa.wr W189 E)
  exact own_retV X189 hx hlk hret (hb hby own_d_jdk_32_2_9) (by decide) (by decide) (show QrmOi Z we a b h0 n0 none T189.heap _ from (by rw [e189]; exact ⟨rfl, N189, K191, F192, F190⟩))
theorem own_d_jdk_32_3_0 : decode jdk_32_method_3_code 0 = .ok (.new 2, 3) := by decide +kernel
theorem own_d_jdk_32_3_3 : decode jdk_32_method_3_code 3 = .ok (.dup, 1) := by decide +kernel
theorem own_d_jdk_32_3_4 : decode jdk_32_method_3_code 4 = .ok (.aload_n 0, 1) := by decide +kernel
theorem own_d_jdk_32_3_5 : decode jdk_32_method_3_code 5 = .ok (.invokestatic 17, 3) := by decide +kernel
theorem own_lm_296 : ("java/util/Objects" : String) ≠ "java/lang/invoke/MethodHandle" ∧ ("java/util/Objects" : String) ≠ "java/lang/invoke/VarHandle" := by decide +kernel
theorem own_pd_297 : parseMethodDescriptor "(Ljava/lang/Object;)Ljava/lang/Object;" = some ⟨[(.object "java/lang/Object")], some (.object "java/lang/Object")⟩ := by decide +kernel
theorem own_d_jdk_32_3_8 : decode jdk_32_method_3_code 8 = .ok (.invokespecial 23, 3) := by decide +kernel
theorem own_lm_299 : ("java/util/Optional" : String) ≠ "java/lang/invoke/MethodHandle" ∧ ("java/util/Optional" : String) ≠ "java/lang/invoke/VarHandle" := by decide +kernel
theorem own_pd_300 : parseMethodDescriptor "(Ljava/lang/Object;)V" = some ⟨[(.object "java/lang/Object")], none⟩ := by decide +kernel
theorem own_d_jdk_32_3_11 : decode jdk_32_method_3_code 11 = .ok (.areturn, 1) := by decide +kernel
abbrev own_y_302 : MethodName := ⟨"java/util/Optional", "of", "(Ljava/lang/Object;)Ljava/util/Optional;"⟩
theorem own_ef_rmOo (m : MethodId) (b : Addr)  : entryFrame m #[(.ref b)] 1 = mkF m 0 #[.val (.ref b)] [] := by first | (simp [entryFrame, mkF, argsToLocals, Value.category, maxLocals]; done) | rfl
def QrmOo (Z : State) (we : Addr) (b : Addr) (h0 : Heap) (n0 : Nat) (v : Option Value) (h : Heap) (L : List Loc) : Prop := ∃ r : Addr, v = some (.ref r) ∧ Fr n0 L ∧ Keep h0 h [] ∧ h0.size ≤ r ∧ Exa Z h r "java/util/Optional" ∧ Fld Z h r "java/util/Optional" "value" "Ljava/lang/Object;" (.ref b)
set_option maxRecDepth 65536 in
set_option maxHeartbeats 40000000 in
theorem rmOo (l : Launch) (Z : State) (a0 : Array Value) (hw : own_H a0 Z) (ws : List Jvm.Cond) (we : Addr) (hS : own_S Z we) (b : Addr) (h0 : Heap) (n0 : Nat) (O0 : Old Z n0 h0)  :
    own_Met l own_y_302 jdk_32_method_3_code 1 (some (.object "java/util/Optional")) ws ({ frames := 2, cells := 1, slots := 1, locals := 26 } : Room) Z h0 #[(.ref b)] (QrmOo Z we b h0 n0) := by
  refine own_body (plainFor_of_name own_pn_277) ?_
  intro p e s m below meth c s₁ hx hby hml hown hnm hret hlk hZ e0 X0
  have N0 := Fr.nil n0
  refine own_st (fun u_ k_ => castTop (own_ef_rmOo m b) k_) ?_
  show own_Go p e below _ (s₁.setTop (mkF m 0 #[.val (.ref b)] []))
  obtain ⟨T193, h193, X193, e193, E193, A193, D193, U193, st193⟩ := newO X0 hx hZ hown (own_w hw 55 rfl) (own_w hw 56 rfl) (own_w hw 7 rfl) e0 (g := (mkF m 0 #[.val (.ref b)] [])) rfl (hb hby own_d_jdk_32_3_0) (by decide) (by decide)
  obtain ⟨b193, g193⟩ : ∃ z, z = h0.size := ⟨_, rfl⟩
  rw [← g193] at A193 D193 U193 st193
  have F193_value : Fld Z h193 b193 "java/util/Optional" "value" "Ljava/lang/Object;" .null := D193 (Or.inr (own_w hw 16 rfl)) (ty := (.object "java/lang/Object")) own_lm_289
  refine own_st (fun u_ k_ => st193 u_ k_) ?_
  show own_Go p e below _ (T193.setTop (mkF m 3 #[.val (.ref b)] [(.ref b193)]))
  refine own_st (fun u_ k_ => XS.dup X193.here hx rfl (hb hby own_d_jdk_32_3_3) rfl rfl k_) ?_
  show own_Go p e below _ (T193.setTop (mkF m 4 #[.val (.ref b)] [(.ref b193), (.ref b193)]))
  refine own_st (fun u_ k_ => XS.aloadN X193.here hx rfl (hb hby own_d_jdk_32_3_4) rfl rfl k_) ?_
  show own_Go p e below _ (T193.setTop (mkF m 5 #[.val (.ref b)] [(.ref b), (.ref b193), (.ref b193)]))
  have O195 : Old Z n0 h193 := O0.ext E193
  obtain ⟨T194, v194, L194, X194, hQ194, st194⟩ := own_callS X193 hx hZ (y := own_y_282) hown (own_w hw 57 rfl) (own_w hw 58 rfl) (own_w hw 59 rfl) (own_w hw 60 rfl) own_lm_296 (rmNn l Z a0 hw [] we hS b h193 n0 O195 ) e193 own_pd_297 (argsL := [(.ref b)]) (rest := [(.ref b193), (.ref b193)]) rfl rfl (g := (mkF m 5 #[.val (.ref b)] [(.ref b), (.ref b193), (.ref b193)])) rfl (by rw [hml]; rfl) rfl (hb hby own_d_jdk_32_3_5) (W := 2) rfl (by decide) (by decide) (by decide) (by decide)
  obtain ⟨rfl, M194, e194⟩ := hQ194
  have N194 := Fr.app N0 M194
  refine own_st (fun u_ k_ => st194 u_ k_) ?_
  show own_Go p e below _ (T194.setTop (mkF m 8 #[.val (.ref b)] [(.ref b), (.ref b193), (.ref b193)]))
  have g196 : n0 ≤ b193 := Nat.le_trans (own_nl O0) (Nat.le_of_eq g193.symm)
  obtain ⟨T197, v197, L197, X197, hQ197, st197⟩ := own_callN X194 hx hZ (y := own_y_291) rfl hown (own_w hw 61 rfl) (own_w hw 62 rfl) (own_w hw 7 rfl) (own_w hw 64 rfl) own_lm_299 (rmOi l Z a0 hw [] we hS b193 b h193 n0 O195 A193 g196 F193_value) e194 own_pd_300 (a := b193) (argsL := [(.ref b)]) (rest := [(.ref b193)]) rfl rfl (g := (mkF m 8 #[.val (.ref b)] [(.ref b), (.ref b193), (.ref b193)])) rfl (by rw [hml]; rfl) rfl (hb hby own_d_jdk_32_3_8) (W := 1) rfl (by decide) (by decide) (by decide) (by decide)
  obtain ⟨rfl, M197, K197, F198, F199⟩ := hQ197
  have N197 := Fr.app N194 M197
  refine own_st (fun u_ k_ => st197 u_ k_) ?_
  show own_Go p e below _ (T197.setTop (mkF m 11 #[.val (.ref b)] [(.ref b193)]))
  have K200 : Keep h0 h193 [] := (Keep.refl h0 []).ext E193
  have z202 : h0.size ≤ b193 := Nat.le_trans (Nat.le_refl _) (Nat.le_of_eq g193.symm)
  have K201 : Keep h0 T197.heap [] := K200.trans K197 (allS (Or.inr z202) all0)
  exact own_retX X197 hx hlk hret rfl (Or.inr (Or.inr (Or.inr (Or.inr ⟨rfl, rfl, rfl⟩)))) (hb hby own_d_jdk_32_3_11) (by decide) (by decide) (show QrmOo Z we b h0 n0 (some (.ref b193)) T197.heap _ from (by exact ⟨b193, rfl, N197, K201, z202, F198, F199⟩))
theorem own_d_jdk_32_6_0 : decode jdk_32_method_6_code 0 = .ok (.aload_n 0, 1) := by decide +kernel
theorem own_d_jdk_32_6_1 : decode jdk_32_method_6_code 1 = .ok (.getfield 13, 3) := by decide +kernel
theorem own_d_jdk_32_6_4 : decode jdk_32_method_6_code 4 = .ok (.ifnull 7, 3) := by decide +kernel
theorem own_d_jdk_32_6_11 : decode jdk_32_method_6_code 11 = .ok (.iconst 0, 1) := by decide +kernel
theorem own_d_jdk_32_6_12 : decode jdk_32_method_6_code 12 = .ok (.ireturn, 1) := by decide +kernel
abbrev own_y_308 : MethodName := ⟨"java/util/Optional", "isPresent", "()Z"⟩
theorem own_ef_rmOp0 (m : MethodId) (a : Addr)  : entryFrame m #[(.ref a)] 1 = mkF m 0 #[.val (.ref a)] [] := by first | (simp [entryFrame, mkF, argsToLocals, Value.category, maxLocals]; done) | rfl
def QrmOp0 (Z : State) (we : Addr) (a : Addr) (h0 : Heap) (n0 : Nat) (v : Option Value) (h : Heap) (L : List Loc) : Prop := v = some (.int (0 : Int32)) ∧ Fr n0 L ∧ h = h0
set_option maxRecDepth 65536 in
set_option maxHeartbeats 40000000 in
theorem rmOp0 (l : Launch) (Z : State) (a0 : Array Value) (hw : own_H a0 Z) (ws : List Jvm.Cond) (we : Addr) (hS : own_S Z we) (a : Addr) (h0 : Heap) (n0 : Nat) (O0 : Old Z n0 h0) (F : Fld Z h0 a "java/util/Optional" "value" "Ljava/lang/Object;" .null) :
    own_Met l own_y_308 jdk_32_method_6_code 1 (some .boolean) ws ({ frames := 0, cells := 0, slots := 0, locals := 0 } : Room) Z h0 #[(.ref a)] (QrmOp0 Z we a h0 n0) := by
  refine own_body (plainFor_of_name own_pn_277) ?_
  intro p e s m below meth c s₁ hx hby hml hown hnm hret hlk hZ e0 X0
  have N0 := Fr.nil n0
  refine own_st (fun u_ k_ => castTop (own_ef_rmOp0 m a) k_) ?_
  show own_Go p e below _ (s₁.setTop (mkF m 0 #[.val (.ref a)] []))
  refine own_st (fun u_ k_ => XS.aloadN X0.here hx rfl (hb hby own_d_jdk_32_6_0) rfl rfl k_) ?_
  show own_Go p e below _ (s₁.setTop (mkF m 1 #[.val (.ref a)] [(.ref a)]))
  obtain ⟨T203, X203, e203, st203⟩ := getF X0 hx hZ hown (host := "") (Or.inl (own_w hw 15 rfl)) Via.refl e0 F (g := (mkF m 1 #[.val (.ref a)] [(.ref a)])) rfl rfl (hb hby own_d_jdk_32_6_1)
  refine own_st (fun u_ k_ => st203 u_ k_) ?_
  show own_Go p e below _ (T203.setTop (mkF m 4 #[.val (.ref a)] [.null]))
  refine own_st (fun u_ k_ => XS.ifnullYes X203.here hx rfl (pc0 := 4) (pc' := 11) rfl (hb hby own_d_jdk_32_6_4) rfl (by decide) (by decide) k_) ?_
  show own_Go p e below _ (T203.setTop (mkF m 11 #[.val (.ref a)] []))
  refine own_st (fun u_ k_ => XS.iconst X203.here hx rfl (hb hby own_d_jdk_32_6_11) k_) ?_
  show own_Go p e below _ (T203.setTop (mkF m 12 #[.val (.ref a)] [(.int (0 : Int32))]))
  exact own_retX X203 hx hlk hret rfl (Or.inl ⟨rfl, by simp, _, rfl⟩) (hb hby own_d_jdk_32_6_12) (by decide) (by decide) (show QrmOp0 Z we a h0 n0 (some (.int (0 : Int32))) T203.heap _ from (by rw [e203]; exact ⟨rfl, N0, rfl⟩))
theorem own_d_jdk_32_6_7 : decode jdk_32_method_6_code 7 = .ok (.iconst 1, 1) := by decide +kernel
theorem own_d_jdk_32_6_8 : decode jdk_32_method_6_code 8 = .ok (.goto 4, 3) := by decide +kernel
theorem own_ef_rmOp1 (m : MethodId) (a : Addr)  : entryFrame m #[(.ref a)] 1 = mkF m 0 #[.val (.ref a)] [] := by first | (simp [entryFrame, mkF, argsToLocals, Value.category, maxLocals]; done) | rfl
def QrmOp1 (Z : State) (we : Addr) (a : Addr) (b : Addr) (h0 : Heap) (n0 : Nat) (v : Option Value) (h : Heap) (L : List Loc) : Prop := v = some (.int (1 : Int32)) ∧ Fr n0 L ∧ h = h0
set_option maxRecDepth 65536 in
set_option maxHeartbeats 40000000 in
theorem rmOp1 (l : Launch) (Z : State) (a0 : Array Value) (hw : own_H a0 Z) (ws : List Jvm.Cond) (we : Addr) (hS : own_S Z we) (a : Addr) (b : Addr) (h0 : Heap) (n0 : Nat) (O0 : Old Z n0 h0) (F : Fld Z h0 a "java/util/Optional" "value" "Ljava/lang/Object;" (.ref b)) :
    own_Met l own_y_308 jdk_32_method_6_code 1 (some .boolean) ws ({ frames := 0, cells := 0, slots := 0, locals := 0 } : Room) Z h0 #[(.ref a)] (QrmOp1 Z we a b h0 n0) := by
  refine own_body (plainFor_of_name own_pn_277) ?_
  intro p e s m below meth c s₁ hx hby hml hown hnm hret hlk hZ e0 X0
  have N0 := Fr.nil n0
  refine own_st (fun u_ k_ => castTop (own_ef_rmOp1 m a) k_) ?_
  show own_Go p e below _ (s₁.setTop (mkF m 0 #[.val (.ref a)] []))
  refine own_st (fun u_ k_ => XS.aloadN X0.here hx rfl (hb hby own_d_jdk_32_6_0) rfl rfl k_) ?_
  show own_Go p e below _ (s₁.setTop (mkF m 1 #[.val (.ref a)] [(.ref a)]))
  obtain ⟨T204, X204, e204, st204⟩ := getF X0 hx hZ hown (host := "") (Or.inl (own_w hw 15 rfl)) Via.refl e0 F (g := (mkF m 1 #[.val (.ref a)] [(.ref a)])) rfl rfl (hb hby own_d_jdk_32_6_1)
  refine own_st (fun u_ k_ => st204 u_ k_) ?_
  show own_Go p e below _ (T204.setTop (mkF m 4 #[.val (.ref a)] [(.ref b)]))
  refine own_st (fun u_ k_ => XS.ifnullNo X204.here hx rfl (hb hby own_d_jdk_32_6_4) rfl k_) ?_
  show own_Go p e below _ (T204.setTop (mkF m 7 #[.val (.ref a)] []))
  refine own_st (fun u_ k_ => XS.iconst X204.here hx rfl (hb hby own_d_jdk_32_6_7) k_) ?_
  show own_Go p e below _ (T204.setTop (mkF m 8 #[.val (.ref a)] [(.int (1 : Int32))]))
  refine own_st (fun u_ k_ => XS.goto X204.here hx rfl (pc0 := 8) (pc' := 12) rfl (hb hby own_d_jdk_32_6_8) (by decide) (by decide) k_) ?_
  show own_Go p e below _ (T204.setTop (mkF m 12 #[.val (.ref a)] [(.int (1 : Int32))]))
  exact own_retX X204 hx hlk hret rfl (Or.inl ⟨rfl, by simp, _, rfl⟩) (hb hby own_d_jdk_32_6_12) (by decide) (by decide) (show QrmOp1 Z we a b h0 n0 (some (.int (1 : Int32))) T204.heap _ from (by rw [e204]; exact ⟨rfl, N0, rfl⟩))
theorem own_d_jdk_32_5_0 : decode jdk_32_method_5_code 0 = .ok (.aload_n 0, 1) := by decide +kernel
theorem own_d_jdk_32_5_1 : decode jdk_32_method_5_code 1 = .ok (.getfield 13, 3) := by decide +kernel
theorem own_d_jdk_32_5_4 : decode jdk_32_method_5_code 4 = .ok (.ifnonnull 13, 3) := by decide +kernel
theorem own_d_jdk_32_5_17 : decode jdk_32_method_5_code 17 = .ok (.aload_n 0, 1) := by decide +kernel
theorem own_d_jdk_32_5_18 : decode jdk_32_method_5_code 18 = .ok (.getfield 13, 3) := by decide +kernel
theorem own_d_jdk_32_5_21 : decode jdk_32_method_5_code 21 = .ok (.areturn, 1) := by decide +kernel
abbrev own_y_317 : MethodName := ⟨"java/util/Optional", "get", "()Ljava/lang/Object;"⟩
theorem own_ef_rmOg (m : MethodId) (a : Addr)  : entryFrame m #[(.ref a)] 1 = mkF m 0 #[.val (.ref a)] [] := by first | (simp [entryFrame, mkF, argsToLocals, Value.category, maxLocals]; done) | rfl
def QrmOg (Z : State) (we : Addr) (a : Addr) (b : Addr) (h0 : Heap) (n0 : Nat) (v : Option Value) (h : Heap) (L : List Loc) : Prop := v = some (.ref b) ∧ Fr n0 L ∧ h = h0
set_option maxRecDepth 65536 in
set_option maxHeartbeats 40000000 in
theorem rmOg (l : Launch) (Z : State) (a0 : Array Value) (hw : own_H a0 Z) (ws : List Jvm.Cond) (we : Addr) (hS : own_S Z we) (a : Addr) (b : Addr) (h0 : Heap) (n0 : Nat) (O0 : Old Z n0 h0) (F : Fld Z h0 a "java/util/Optional" "value" "Ljava/lang/Object;" (.ref b)) :
    own_Met l own_y_317 jdk_32_method_5_code 1 (some (.object "java/lang/Object")) ws ({ frames := 0, cells := 0, slots := 0, locals := 0 } : Room) Z h0 #[(.ref a)] (QrmOg Z we a b h0 n0) := by
  refine own_body (plainFor_of_name own_pn_277) ?_
  intro p e s m below meth c s₁ hx hby hml hown hnm hret hlk hZ e0 X0
  have N0 := Fr.nil n0
  refine own_st (fun u_ k_ => castTop (own_ef_rmOg m a) k_) ?_
  show own_Go p e below _ (s₁.setTop (mkF m 0 #[.val (.ref a)] []))
  refine own_st (fun u_ k_ => XS.aloadN X0.here hx rfl (hb hby own_d_jdk_32_5_0) rfl rfl k_) ?_
  show own_Go p e below _ (s₁.setTop (mkF m 1 #[.val (.ref a)] [(.ref a)]))
  obtain ⟨T205, X205, e205, st205⟩ := getF X0 hx hZ hown (host := "") (Or.inl (own_w hw 15 rfl)) Via.refl e0 F (g := (mkF m 1 #[.val (.ref a)] [(.ref a)])) rfl rfl (hb hby own_d_jdk_32_5_1)
  refine own_st (fun u_ k_ => st205 u_ k_) ?_
  show own_Go p e below _ (T205.setTop (mkF m 4 #[.val (.ref a)] [(.ref b)]))
  refine own_st (fun u_ k_ => XS.ifnonnullYes X205.here hx rfl (pc0 := 4) (pc' := 17) rfl (hb hby own_d_jdk_32_5_4) rfl (by decide) (by decide) k_) ?_
  show own_Go p e below _ (T205.setTop (mkF m 17 #[.val (.ref a)] []))
  refine own_st (fun u_ k_ => XS.aloadN X205.here hx rfl (hb hby own_d_jdk_32_5_17) rfl rfl k_) ?_
  show own_Go p e below _ (T205.setTop (mkF m 18 #[.val (.ref a)] [(.ref a)]))
  obtain ⟨T206, X206, e206, st206⟩ := getF X205 hx hZ hown (host := "") (Or.inl (own_w hw 15 rfl)) Via.refl e205 F (g := (mkF m 18 #[.val (.ref a)] [(.ref a)])) rfl rfl (hb hby own_d_jdk_32_5_18)
  refine own_st (fun u_ k_ => st206 u_ k_) ?_
  show own_Go p e below _ (T206.setTop (mkF m 21 #[.val (.ref a)] [(.ref b)]))
  exact own_retX X206 hx hlk hret rfl (Or.inr (Or.inr (Or.inr (Or.inr ⟨rfl, rfl, rfl⟩)))) (hb hby own_d_jdk_32_5_21) (by decide) (by decide) (show QrmOg Z we a b h0 n0 (some (.ref b)) T206.heap _ from (by rw [e206]; exact ⟨rfl, N0, rfl⟩))
theorem own_d_prog_14_2_0 : decode prog_14_method_2_code 0 = .ok (.aload_n 0, 1) := by decide +kernel
theorem own_d_prog_14_2_1 : decode prog_14_method_2_code 1 = .ok (.arraylength, 1) := by decide +kernel
theorem own_d_prog_14_2_2 : decode prog_14_method_2_code 2 = .ok (.bipush 37, 2) := by decide +kernel
theorem own_d_prog_14_2_4 : decode prog_14_method_2_code 4 = .ok (.if_icmp .ge 7, 3) := by decide +kernel
theorem own_d_prog_14_2_7 : decode prog_14_method_2_code 7 = .ok (.invokestatic 33, 3) := by decide +kernel
theorem own_pd_323 : parseMethodDescriptor "()Ljava/util/Optional;" = some ⟨[], some (.object "java/util/Optional")⟩ := by decide +kernel
theorem own_d_prog_14_2_10 : decode prog_14_method_2_code 10 = .ok (.areturn, 1) := by decide +kernel
abbrev own_y_325 : MethodName := ⟨"com/example/tasdik/tasdik/core/appattest/AuthenticatorData", "ofAssertion", "([B)Ljava/util/Optional;"⟩
theorem own_ef_rmAe (m : MethodId) (b : Addr)  : entryFrame m #[(.ref b)] 1 = mkF m 0 #[.val (.ref b)] [] := by first | (simp [entryFrame, mkF, argsToLocals, Value.category, maxLocals]; done) | rfl
def QrmAe (Z : State) (we : Addr) (b : Addr) (kb : ClassId) (n : Int32) (vs : List Value) (h0 : Heap) (n0 : Nat) (v : Option Value) (h : Heap) (L : List Loc) : Prop := v = some (.ref we) ∧ Fr n0 L ∧ h = h0
set_option maxRecDepth 65536 in
set_option maxHeartbeats 40000000 in
theorem rmAe (l : Launch) (Z : State) (a0 : Array Value) (hw : own_H a0 Z) (ws : List Jvm.Cond) (we : Addr) (hS : own_S Z we) (b : Addr) (kb : ClassId) (n : Int32) (vs : List Value) (h0 : Heap) (n0 : Nat) (O0 : Old Z n0 h0) (V : Arv Z h0 b kb .byte n vs (.int (0 : Int32))) (hn : n < (37 : Int32)) :
    own_Met l own_y_325 prog_14_method_2_code 1 (some (.object "java/util/Optional")) ws ({ frames := 1, cells := 0, slots := 0, locals := 12 } : Room) Z h0 #[(.ref b)] (QrmAe Z we b kb n vs h0 n0) := by
  refine own_body (plainFor_of_name own_pn_192) ?_
  intro p e s m below meth c s₁ hx hby hml hown hnm hret hlk hZ e0 X0
  have N0 := Fr.nil n0
  refine own_st (fun u_ k_ => castTop (own_ef_rmAe m b) k_) ?_
  show own_Go p e below _ (s₁.setTop (mkF m 0 #[.val (.ref b)] []))
  refine own_st (fun u_ k_ => XS.aloadN X0.here hx rfl (hb hby own_d_prog_14_2_0) rfl rfl k_) ?_
  show own_Go p e below _ (s₁.setTop (mkF m 1 #[.val (.ref b)] [(.ref b)]))
  obtain ⟨cl207, Ar207, -, S207, N207, -, -⟩ := id V
  refine own_st (X0.arraylength hx (by rw [e0]; exact Ar207.1) (State.isArrayOf_alike hZ.alike Ar207.2.1) (g := (mkF m 1 #[.val (.ref b)] [(.ref b)])) rfl rfl (hb hby own_d_prog_14_2_1)) ?_
  rw [len_of S207 N207]
  show own_Go p e below _ (s₁.setTop (mkF m 2 #[.val (.ref b)] [(.int n)]))
  refine own_st (fun u_ k_ => XS.bipush X0.here hx rfl (hb hby own_d_prog_14_2_2) k_) ?_
  show own_Go p e below _ (s₁.setTop (mkF m 4 #[.val (.ref b)] [(.int (37 : Int32)), (.int n)]))
  refine own_st (fun u_ k_ => XS.icmpNo X0.here hx rfl (hb hby own_d_prog_14_2_4) rfl (XT.ii_ge_f hn) k_) ?_
  show own_Go p e below _ (s₁.setTop (mkF m 7 #[.val (.ref b)] []))
  obtain ⟨T208, v208, L208, X208, hQ208, st208⟩ := own_callS X0 hx hZ (y := own_y_276) hown (own_w hw 5 rfl) (own_w hw 6 rfl) (own_w hw 7 rfl) (own_w hw 8 rfl) own_lm_299 (rmOe l Z a0 hw [] we hS  h0 n0 O0 ) e0 own_pd_323 (argsL := []) (rest := []) rfl rfl (g := (mkF m 7 #[.val (.ref b)] [])) rfl (by rw [hml]; rfl) rfl (hb hby own_d_prog_14_2_7) (W := 0) rfl (by decide) (by decide) (by decide) (by decide)
  obtain ⟨rfl, M208, e208⟩ := hQ208
  have N208 := Fr.app N0 M208
  refine own_st (fun u_ k_ => st208 u_ k_) ?_
  show own_Go p e below _ (T208.setTop (mkF m 10 #[.val (.ref b)] [(.ref we)]))
  exact own_retX X208 hx hlk hret rfl (Or.inr (Or.inr (Or.inr (Or.inr ⟨rfl, rfl, rfl⟩)))) (hb hby own_d_prog_14_2_10) (by decide) (by decide) (show QrmAe Z we b kb n vs h0 n0 (some (.ref we)) T208.heap _ from (by rw [e208]; exact ⟨rfl, N208, rfl⟩))
theorem own_d_prog_14_2_11 : decode prog_14_method_2_code 11 = .ok (.new 7, 3) := by decide +kernel
theorem own_d_prog_14_2_14 : decode prog_14_method_2_code 14 = .ok (.dup, 1) := by decide +kernel
theorem own_d_prog_14_2_15 : decode prog_14_method_2_code 15 = .ok (.aload_n 0, 1) := by decide +kernel
theorem own_d_prog_14_2_16 : decode prog_14_method_2_code 16 = .ok (.aconst_null, 1) := by decide +kernel
theorem own_d_prog_14_2_17 : decode prog_14_method_2_code 17 = .ok (.aconst_null, 1) := by decide +kernel
theorem own_d_prog_14_2_18 : decode prog_14_method_2_code 18 = .ok (.invokespecial 39, 3) := by decide +kernel
theorem own_pd_332 : parseMethodDescriptor "([B[B[B)V" = some ⟨[(.array .byte), (.array .byte), (.array .byte)], none⟩ := by decide +kernel
theorem own_d_prog_14_2_21 : decode prog_14_method_2_code 21 = .ok (.invokestatic 42, 3) := by decide +kernel
theorem own_pd_334 : parseMethodDescriptor "(Ljava/lang/Object;)Ljava/util/Optional;" = some ⟨[(.object "java/lang/Object")], some (.object "java/util/Optional")⟩ := by decide +kernel
theorem own_d_prog_14_2_24 : decode prog_14_method_2_code 24 = .ok (.areturn, 1) := by decide +kernel
theorem own_ef_rmAf (m : MethodId) (b : Addr)  : entryFrame m #[(.ref b)] 1 = mkF m 0 #[.val (.ref b)] [] := by first | (simp [entryFrame, mkF, argsToLocals, Value.category, maxLocals]; done) | rfl
def QrmAf (Z : State) (we : Addr) (b : Addr) (kb : ClassId) (n : Int32) (vs : List Value) (w0 : Int32) (w1 : Int32) (w2 : Int32) (w3 : Int32) (h0 : Heap) (n0 : Nat) (v : Option Value) (h : Heap) (L : List Loc) : Prop := ∃ r : Addr, ∃ a2 : Addr, ∃ r3 : Addr, ∃ k3 : ClassId, v = some (.ref r) ∧ Fr n0 L ∧ Keep h0 h [] ∧ h0.size ≤ r ∧ h0.size ≤ a2 ∧ h0.size ≤ r3 ∧ Exa Z h r "java/util/Optional" ∧ Fld Z h r "java/util/Optional" "value" "Ljava/lang/Object;" (.ref a2) ∧ Exa Z h a2 "com/example/tasdik/tasdik/core/appattest/AuthenticatorData" ∧ Fld Z h a2 "com/example/tasdik/tasdik/core/appattest/AuthenticatorData" "rpIdHash" "[B" (.ref r3) ∧ Fld Z h a2 "com/example/tasdik/tasdik/core/appattest/AuthenticatorData" "counter" "J" (.long (((((((((0 : Int64) <<< ((8 : Int32) &&& 0x3f).toInt64) ||| ((w0 &&& (255 : Int32)).toInt64)) <<< ((8 : Int32) &&& 0x3f).toInt64) ||| ((w1 &&& (255 : Int32)).toInt64)) <<< ((8 : Int32) &&& 0x3f).toInt64) ||| ((w2 &&& (255 : Int32)).toInt64)) <<< ((8 : Int32) &&& 0x3f).toInt64) ||| ((w3 &&& (255 : Int32)).toInt64))) ∧ Arv Z h r3 k3 .byte (32 : Int32) [(vs.getD 0 (.int (0 : Int32))), (vs.getD 1 (.int (0 : Int32))), (vs.getD 2 (.int (0 : Int32))), (vs.getD 3 (.int (0 : Int32))), (vs.getD 4 (.int (0 : Int32))), (vs.getD 5 (.int (0 : Int32))), (vs.getD 6 (.int (0 : Int32))), (vs.getD 7 (.int (0 : Int32))), (vs.getD 8 (.int (0 : Int32))), (vs.getD 9 (.int (0 : Int32))), (vs.getD 10 (.int (0 : Int32))), (vs.getD 11 (.int (0 : Int32))), (vs.getD 12 (.int (0 : Int32))), (vs.getD 13 (.int (0 : Int32))), (vs.getD 14 (.int (0 : Int32))), (vs.getD 15 (.int (0 : Int32))), (vs.getD 16 (.int (0 : Int32))), (vs.getD 17 (.int (0 : Int32))), (vs.getD 18 (.int (0 : Int32))), (vs.getD 19 (.int (0 : Int32))), (vs.getD 20 (.int (0 : Int32))), (vs.getD 21 (.int (0 : Int32))), (vs.getD 22 (.int (0 : Int32))), (vs.getD 23 (.int (0 : Int32))), (vs.getD 24 (.int (0 : Int32))), (vs.getD 25 (.int (0 : Int32))), (vs.getD 26 (.int (0 : Int32))), (vs.getD 27 (.int (0 : Int32))), (vs.getD 28 (.int (0 : Int32))), (vs.getD 29 (.int (0 : Int32))), (vs.getD 30 (.int (0 : Int32))), (vs.getD 31 (.int (0 : Int32)))] (.int (0 : Int32)) ∧ Exa Z h r3 "[B"
set_option maxRecDepth 65536 in
set_option maxHeartbeats 40000000 in
theorem rmAf (l : Launch) (Z : State) (a0 : Array Value) (hw : own_H a0 Z) (ws : List Jvm.Cond) (we : Addr) (hS : own_S Z we) (b : Addr) (kb : ClassId) (n : Int32) (vs : List Value) (w0 : Int32) (w1 : Int32) (w2 : Int32) (w3 : Int32) (h0 : Heap) (n0 : Nat) (O0 : Old Z n0 h0) (V : Arv Z h0 b kb .byte n vs (.int (0 : Int32))) (hn : ¬ n < (37 : Int32)) (e_0 : vs.getD 33 (.int (0 : Int32)) = .int w0) (e_1 : vs.getD 34 (.int (0 : Int32)) = .int w1) (e_2 : vs.getD 35 (.int (0 : Int32)) = .int w2) (e_3 : vs.getD 36 (.int (0 : Int32)) = .int w3) :
    own_Met l own_y_325 prog_14_method_2_code 1 (some (.object "java/util/Optional")) ws ({ frames := 3, cells := 3, slots := 37, locals := 58 } : Room) Z h0 #[(.ref b)] (QrmAf Z we b kb n vs w0 w1 w2 w3 h0 n0) := by
  refine own_body (plainFor_of_name own_pn_192) ?_
  intro p e s m below meth c s₁ hx hby hml hown hnm hret hlk hZ e0 X0
  have N0 := Fr.nil n0
  refine own_st (fun u_ k_ => castTop (own_ef_rmAf m b) k_) ?_
  show own_Go p e below _ (s₁.setTop (mkF m 0 #[.val (.ref b)] []))
  refine own_st (fun u_ k_ => XS.aloadN X0.here hx rfl (hb hby own_d_prog_14_2_0) rfl rfl k_) ?_
  show own_Go p e below _ (s₁.setTop (mkF m 1 #[.val (.ref b)] [(.ref b)]))
  obtain ⟨cl209, Ar209, -, S209, N209, -, -⟩ := id V
  refine own_st (X0.arraylength hx (by rw [e0]; exact Ar209.1) (State.isArrayOf_alike hZ.alike Ar209.2.1) (g := (mkF m 1 #[.val (.ref b)] [(.ref b)])) rfl rfl (hb hby own_d_prog_14_2_1)) ?_
  rw [len_of S209 N209]
  show own_Go p e below _ (s₁.setTop (mkF m 2 #[.val (.ref b)] [(.int n)]))
  refine own_st (fun u_ k_ => XS.bipush X0.here hx rfl (hb hby own_d_prog_14_2_2) k_) ?_
  show own_Go p e below _ (s₁.setTop (mkF m 4 #[.val (.ref b)] [(.int (37 : Int32)), (.int n)]))
  refine own_st (fun u_ k_ => XS.icmpYes X0.here hx rfl (pc0 := 4) (pc' := 11) rfl (hb hby own_d_prog_14_2_4) rfl (XT.ii_ge_t hn) (by decide) (by decide) k_) ?_
  show own_Go p e below _ (s₁.setTop (mkF m 11 #[.val (.ref b)] []))
  obtain ⟨T210, h210, X210, e210, E210, A210, D210, U210, st210⟩ := newO X0 hx hZ hown (own_w hw 21 rfl) (own_w hw 22 rfl) (own_w hw 3 rfl) e0 (g := (mkF m 11 #[.val (.ref b)] [])) rfl (hb hby own_d_prog_14_2_11) (by decide) (by decide)
  obtain ⟨b210, g210⟩ : ∃ z, z = h0.size := ⟨_, rfl⟩
  rw [← g210] at A210 D210 U210 st210
  have F210_rpIdHash : Fld Z h210 b210 "com/example/tasdik/tasdik/core/appattest/AuthenticatorData" "rpIdHash" "[B" .null := D210 (Or.inr (own_w hw 42 rfl)) (ty := (.array .byte)) own_lm_232
  have F210_counter : Fld Z h210 b210 "com/example/tasdik/tasdik/core/appattest/AuthenticatorData" "counter" "J" (.long (0 : Int64)) := D210 (Or.inr (own_w hw 47 rfl)) (ty := .long) own_lm_242
  have F210_aaguid : Fld Z h210 b210 "com/example/tasdik/tasdik/core/appattest/AuthenticatorData" "aaguid" "[B" .null := D210 (Or.inr (own_w hw 49 rfl)) (ty := (.array .byte)) own_lm_232
  have F210_credentialId : Fld Z h210 b210 "com/example/tasdik/tasdik/core/appattest/AuthenticatorData" "credentialId" "[B" .null := D210 (Or.inr (own_w hw 51 rfl)) (ty := (.array .byte)) own_lm_232
  refine own_st (fun u_ k_ => st210 u_ k_) ?_
  show own_Go p e below _ (T210.setTop (mkF m 14 #[.val (.ref b)] [(.ref b210)]))
  refine own_st (fun u_ k_ => XS.dup X210.here hx rfl (hb hby own_d_prog_14_2_14) rfl rfl k_) ?_
  show own_Go p e below _ (T210.setTop (mkF m 15 #[.val (.ref b)] [(.ref b210), (.ref b210)]))
  refine own_st (fun u_ k_ => XS.aloadN X210.here hx rfl (hb hby own_d_prog_14_2_15) rfl rfl k_) ?_
  show own_Go p e below _ (T210.setTop (mkF m 16 #[.val (.ref b)] [(.ref b), (.ref b210), (.ref b210)]))
  refine own_st (fun u_ k_ => XS.aconstNull X210.here hx rfl (hb hby own_d_prog_14_2_16) k_) ?_
  show own_Go p e below _ (T210.setTop (mkF m 17 #[.val (.ref b)] [.null, (.ref b), (.ref b210), (.ref b210)]))
  refine own_st (fun u_ k_ => XS.aconstNull X210.here hx rfl (hb hby own_d_prog_14_2_17) k_) ?_
  show own_Go p e below _ (T210.setTop (mkF m 18 #[.val (.ref b)] [.null, .null, (.ref b), (.ref b210), (.ref b210)]))
  have g211 : n0 ≤ b210 := Nat.le_trans (own_nl O0) (Nat.le_of_eq g210.symm)
  have F212 := (V.ext E210)
  have O214 : Old Z n0 h210 := O0.ext E210
  obtain ⟨T213, v213, L213, X213, hQ213, st213⟩ := own_callN X210 hx hZ (y := own_y_271) rfl hown (own_w hw 23 rfl) (own_w hw 24 rfl) (own_w hw 3 rfl) (own_w hw 25 rfl) own_lm_238 (rmI l Z a0 hw [] we hS b210 b kb n vs w0 w1 w2 w3 h210 n0 O214 A210 g211 F210_rpIdHash F210_counter F210_aaguid F210_credentialId F212 hn e_0 e_1 e_2 e_3) e210 own_pd_332 (a := b210) (argsL := [(.ref b), .null, .null]) (rest := [(.ref b210)]) rfl rfl (g := (mkF m 18 #[.val (.ref b)] [.null, .null, (.ref b), (.ref b210), (.ref b210)])) rfl (by rw [hml]; rfl) rfl (hb hby own_d_prog_14_2_18) (W := 1) rfl (by decide) (by decide) (by decide) (by decide)
  obtain ⟨r3_215, k3_216, rfl, M213, K213, z217, F218, F219, F220, F221, F222⟩ := hQ213
  have N213 := Fr.app N0 M213
  refine own_st (fun u_ k_ => st213 u_ k_) ?_
  show own_Go p e below _ (T213.setTop (mkF m 21 #[.val (.ref b)] [(.ref b210)]))
  have O224 : Old Z n0 T213.heap := O214.keep K213 (allS g211 all0)
  obtain ⟨T223, v223, L223, X223, hQ223, st223⟩ := own_callS X213 hx hZ (y := own_y_302) hown (own_w hw 52 rfl) (own_w hw 53 rfl) (own_w hw 7 rfl) (own_w hw 54 rfl) own_lm_299 (rmOo l Z a0 hw [] we hS b210 T213.heap n0 O224 ) rfl own_pd_334 (argsL := [(.ref b210)]) (rest := []) rfl rfl (g := (mkF m 21 #[.val (.ref b)] [(.ref b210)])) rfl (by rw [hml]; rfl) rfl (hb hby own_d_prog_14_2_21) (W := 0) rfl (by decide) (by decide) (by decide) (by decide)
  obtain ⟨r_225, rfl, M223, K223, z226, F227, F228⟩ := hQ223
  have N223 := Fr.app N213 M223
  refine own_st (fun u_ k_ => st223 u_ k_) ?_
  show own_Go p e below _ (T223.setTop (mkF m 24 #[.val (.ref b)] [(.ref r_225)]))
  have K229 : Keep h0 h210 [] := (Keep.refl h0 []).ext E210
  have z231 : h0.size ≤ b210 := Nat.le_trans (Nat.le_refl _) (Nat.le_of_eq g210.symm)
  have K230 : Keep h0 T213.heap [] := K229.trans K213 (allS (Or.inr z231) all0)
  have K232 : Keep h0 T223.heap [] := K230.trans K223 all0
  have z233 : h0.size ≤ r_225 := Nat.le_trans (Nat.le_trans E210.1 K213.1) z226
  have z234 : h0.size ≤ r3_215 := Nat.le_trans E210.1 z217
  have F235 := (F218.keep K223)
  have F236 := (F219.keep K223 nin0)
  have F237 := (F220.keep K223 nin0)
  have F238 := (F221.keep K223 nin0)
  have F239 := (F222.keep K223)
  exact own_retX X223 hx hlk hret rfl (Or.inr (Or.inr (Or.inr (Or.inr ⟨rfl, rfl, rfl⟩)))) (hb hby own_d_prog_14_2_24) (by decide) (by decide) (show QrmAf Z we b kb n vs w0 w1 w2 w3 h0 n0 (some (.ref r_225)) T223.heap _ from (by exact ⟨r_225, b210, r3_215, k3_216, rfl, N223, K232, z233, z231, z234, F227, F228, F235, F236, F237, F238, F239⟩))
theorem own_d_prog_14_5_0 : decode prog_14_method_5_code 0 = .ok (.aload_n 0, 1) := by decide +kernel
theorem own_d_prog_14_5_1 : decode prog_14_method_5_code 1 = .ok (.getfield 15, 3) := by decide +kernel
theorem own_d_prog_14_5_4 : decode prog_14_method_5_code 4 = .ok (.invokevirtual 50, 3) := by decide +kernel
theorem own_d_prog_14_5_7 : decode prog_14_method_5_code 7 = .ok (.checkcast 51, 3) := by decide +kernel
theorem own_d_prog_14_5_10 : decode prog_14_method_5_code 10 = .ok (.areturn, 1) := by decide +kernel
abbrev own_y_341 : MethodName := ⟨"com/example/tasdik/tasdik/core/appattest/AuthenticatorData", "rpIdHash", "()[B"⟩
theorem own_ef_rmH (m : MethodId) (a : Addr)  : entryFrame m #[(.ref a)] 1 = mkF m 0 #[.val (.ref a)] [] := by first | (simp [entryFrame, mkF, argsToLocals, Value.category, maxLocals]; done) | rfl
def QrmH (Z : State) (we : Addr) (a : Addr) (b : Addr) (kb : ClassId) (vs : List Value) (h0 : Heap) (n0 : Nat) (v : Option Value) (h : Heap) (L : List Loc) : Prop := ∃ r : Addr, ∃ kr : ClassId, v = some (.ref r) ∧ Fr n0 L ∧ Keep h0 h [] ∧ h0.size ≤ r ∧ Arv Z h r kr .byte (32 : Int32) vs (.int (0 : Int32)) ∧ Exa Z h r "[B"
set_option maxRecDepth 65536 in
set_option maxHeartbeats 40000000 in
theorem rmH (l : Launch) (Z : State) (a0 : Array Value) (hw : own_H a0 Z) (ws : List Jvm.Cond) (we : Addr) (hS : own_S Z we) (a : Addr) (b : Addr) (kb : ClassId) (vs : List Value) (h0 : Heap) (n0 : Nat) (O0 : Old Z n0 h0) (F : Fld Z h0 a "com/example/tasdik/tasdik/core/appattest/AuthenticatorData" "rpIdHash" "[B" (.ref b)) (V : Arv Z h0 b kb .byte (32 : Int32) vs (.int (0 : Int32))) (Eb : Exa Z h0 b "[B") :
    own_Met l own_y_341 prog_14_method_5_code 1 (some (.array .byte)) ws ({ frames := 1, cells := 1, slots := 32, locals := 14 } : Room) Z h0 #[(.ref a)] (QrmH Z we a b kb vs h0 n0) := by
  refine own_body (plainFor_of_name own_pn_192) ?_
  intro p e s m below meth c s₁ hx hby hml hown hnm hret hlk hZ e0 X0
  have N0 := Fr.nil n0
  refine own_st (fun u_ k_ => castTop (own_ef_rmH m a) k_) ?_
  show own_Go p e below _ (s₁.setTop (mkF m 0 #[.val (.ref a)] []))
  refine own_st (fun u_ k_ => XS.aloadN X0.here hx rfl (hb hby own_d_prog_14_5_0) rfl rfl k_) ?_
  show own_Go p e below _ (s₁.setTop (mkF m 1 #[.val (.ref a)] [(.ref a)]))
  obtain ⟨T240, X240, e240, st240⟩ := getF X0 hx hZ hown (host := "") (Or.inl (own_w hw 41 rfl)) Via.refl e0 F (g := (mkF m 1 #[.val (.ref a)] [(.ref a)])) rfl rfl (hb hby own_d_prog_14_5_1)
  refine own_st (fun u_ k_ => st240 u_ k_) ?_
  show own_Go p e below _ (T240.setTop (mkF m 4 #[.val (.ref a)] [(.ref b)]))
  obtain ⟨T241, h241, X241, e241, E241, A241, Y241, st241⟩ := cloneH X240 hx hZ hown (own_w hw 78 rfl) (own_w hw 79 rfl) (own_w hw 83 rfl) (own_w hw 81 rfl) (own_w hw 82 rfl) (own_w hw 84 rfl) e240 V.arh Eb (g := (mkF m 4 #[.val (.ref a)] [(.ref b)])) rfl (by rw [hml]; rfl) rfl (hb hby own_d_prog_14_5_4) (by decide) (W := 0) (cap := 32) (by show 2 * 0 + _ ≤ _; exact Nat.le_of_eq rfl) (by decide) (by decide) (by decide) (by decide)
  obtain ⟨b241, g241⟩ : ∃ z, z = h0.size := ⟨_, rfl⟩
  rw [← g241] at A241 Y241 st241
  have V241 : Arv Z h241 b241 kb .byte (32 : Int32) vs (.int (0 : Int32)) := A241
  refine own_st (fun u_ k_ => st241 u_ k_) ?_
  show own_Go p e below _ (T241.setTop (mkF m 7 #[.val (.ref a)] [(.ref b241)]))
  obtain ⟨T242, X242, e242, st242⟩ := castY X241 hx hZ hown (own_w hw 85 rfl) e241 (Ins.self Y241) (g := (mkF m 7 #[.val (.ref a)] [(.ref b241)])) rfl rfl (hb hby own_d_prog_14_5_7)
  refine own_st (fun u_ k_ => st242 u_ k_) ?_
  show own_Go p e below _ (T242.setTop (mkF m 10 #[.val (.ref a)] [(.ref b241)]))
  have K243 : Keep h0 h241 [] := (Keep.refl h0 []).ext E241
  have z244 : h0.size ≤ b241 := Nat.le_trans (Nat.le_refl _) (Nat.le_of_eq g241.symm)
  exact own_retX X242 hx hlk hret rfl (Or.inr (Or.inr (Or.inr (Or.inr ⟨rfl, rfl, rfl⟩)))) (hb hby own_d_prog_14_5_10) (by decide) (by decide) (show QrmH Z we a b kb vs h0 n0 (some (.ref b241)) T242.heap _ from (by rw [e242]; exact ⟨b241, kb, rfl, N0, K243, z244, V241, Y241⟩))
theorem own_d_prog_14_6_0 : decode prog_14_method_6_code 0 = .ok (.aload_n 0, 1) := by decide +kernel
theorem own_d_prog_14_6_1 : decode prog_14_method_6_code 1 = .ok (.getfield 23, 3) := by decide +kernel
theorem own_d_prog_14_6_4 : decode prog_14_method_6_code 4 = .ok (.lreturn, 1) := by decide +kernel
abbrev own_y_345 : MethodName := ⟨"com/example/tasdik/tasdik/core/appattest/AuthenticatorData", "counter", "()J"⟩
theorem own_ef_rmC (m : MethodId) (a : Addr)  : entryFrame m #[(.ref a)] 1 = mkF m 0 #[.val (.ref a)] [] := by first | (simp [entryFrame, mkF, argsToLocals, Value.category, maxLocals]; done) | rfl
def QrmC (Z : State) (we : Addr) (a : Addr) (j : Int64) (h0 : Heap) (n0 : Nat) (v : Option Value) (h : Heap) (L : List Loc) : Prop := v = some (.long j) ∧ Fr n0 L ∧ h = h0
set_option maxRecDepth 65536 in
set_option maxHeartbeats 40000000 in
theorem rmC (l : Launch) (Z : State) (a0 : Array Value) (hw : own_H a0 Z) (ws : List Jvm.Cond) (we : Addr) (hS : own_S Z we) (a : Addr) (j : Int64) (h0 : Heap) (n0 : Nat) (O0 : Old Z n0 h0) (F : Fld Z h0 a "com/example/tasdik/tasdik/core/appattest/AuthenticatorData" "counter" "J" (.long j)) :
    own_Met l own_y_345 prog_14_method_6_code 1 (some .long) ws ({ frames := 0, cells := 0, slots := 0, locals := 0 } : Room) Z h0 #[(.ref a)] (QrmC Z we a j h0 n0) := by
  refine own_body (plainFor_of_name own_pn_192) ?_
  intro p e s m below meth c s₁ hx hby hml hown hnm hret hlk hZ e0 X0
  have N0 := Fr.nil n0
  refine own_st (fun u_ k_ => castTop (own_ef_rmC m a) k_) ?_
  show own_Go p e below _ (s₁.setTop (mkF m 0 #[.val (.ref a)] []))
  refine own_st (fun u_ k_ => XS.aloadN X0.here hx rfl (hb hby own_d_prog_14_6_0) rfl rfl k_) ?_
  show own_Go p e below _ (s₁.setTop (mkF m 1 #[.val (.ref a)] [(.ref a)]))
  obtain ⟨T245, X245, e245, st245⟩ := getF X0 hx hZ hown (host := "") (Or.inl (own_w hw 46 rfl)) Via.refl e0 F (g := (mkF m 1 #[.val (.ref a)] [(.ref a)])) rfl rfl (hb hby own_d_prog_14_6_1)
  refine own_st (fun u_ k_ => st245 u_ k_) ?_
  show own_Go p e below _ (T245.setTop (mkF m 4 #[.val (.ref a)] [(.long j)]))
  exact own_retX X245 hx hlk hret rfl (Or.inr (Or.inl ⟨rfl, rfl, _, rfl⟩)) (hb hby own_d_prog_14_6_4) (by decide) (by decide) (show QrmC Z we a j h0 n0 (some (.long j)) T245.heap _ from (by rw [e245]; exact ⟨rfl, N0, rfl⟩))
theorem own_pd_346 : parseMethodDescriptor "([B)Ljava/util/Optional;" = some ⟨[(.array .byte)], some (.object "java/util/Optional")⟩ := by decide +kernel
theorem own_pd_347 : parseMethodDescriptor "()Z" = some ⟨[], some .boolean⟩ := by decide +kernel
theorem own_lm_348 : ("com/example/tasdik/tasdik/core/appattest/AuthenticatorDataOfAssertionPinLaw" : String) ≠ "java/lang/invoke/MethodHandle" ∧ ("com/example/tasdik/tasdik/core/appattest/AuthenticatorDataOfAssertionPinLaw" : String) ≠ "java/lang/invoke/VarHandle" := by decide +kernel
theorem own_pd_349 : parseMethodDescriptor "([BIJ)V" = some ⟨[(.array .byte), .int, .long], none⟩ := by decide +kernel
theorem own_pd_350 : parseMethodDescriptor "()Ljava/lang/Object;" = some ⟨[], some (.object "java/lang/Object")⟩ := by decide +kernel
theorem own_pd_351 : parseMethodDescriptor "()[B" = some ⟨[], some (.array .byte)⟩ := by decide +kernel
theorem own_pd_352 : parseMethodDescriptor "()J" = some ⟨[], some .long⟩ := by decide +kernel
theorem own_pd_353 : parseMethodDescriptor "([BIJ)Z" = some ⟨[(.array .byte), .int, .long], some .boolean⟩ := by decide +kernel
-- the law itself
theorem own_ef_rm0 (m : MethodId) (q : Int32) (ha : Int64) (hb1 : Int64) (hc1 : Int64) (hd1 : Int64) (c9 : Int32)  : entryFrame m #[(.int q), (.long ha), (.long hb1), (.long hc1), (.long hd1), (.int c9)] maxLocals = mkF m 0 #[.val (.int q), .val (.long ha), .second, .val (.long hb1), .second, .val (.long hc1), .second, .val (.long hd1), .second, .val (.int c9), .unset, .unset, .unset, .unset, .unset, .unset, .unset] [] := by first | (simp [entryFrame, mkF, argsToLocals, Value.category, maxLocals]; done) | rfl
def Qrm0 (Z : State) (we : Addr) (q : Int32) (ha : Int64) (hb1 : Int64) (hc1 : Int64) (hd1 : Int64) (c9 : Int32) (h0 : Heap) (n0 : Nat) (v : Option Value) (h : Heap) (L : List Loc) : Prop := v = some (.int (1 : Int32)) ∧ Fr n0 L ∧ Keep h0 h []
set_option maxRecDepth 65536 in
set_option maxHeartbeats 40000000 in
theorem rm0 (l : Launch) (Z : State) (a0 : Array Value) (hw : own_H a0 Z) (ws : List Jvm.Cond) (we : Addr) (hS : own_S Z we) (q : Int32) (ha : Int64) (hb1 : Int64) (hc1 : Int64) (hd1 : Int64) (c9 : Int32) (h0 : Heap) (n0 : Nat) (O0 : Old Z n0 h0)  :
    own_Met l x code maxLocals ret ws room_1 Z h0 #[(.int q), (.long ha), (.long hb1), (.long hc1), (.long hd1), (.int c9)] (Qrm0 Z we q ha hb1 hc1 hd1 c9 h0 n0) := by
  refine own_body (plainFor_of_name own_pn_78) ?_
  intro p e s m below meth c s₁ hx hby hml hown hnm hret hlk hZ e0 X0
  have N0 := Fr.nil n0
  refine own_st (fun u_ k_ => castTop (own_ef_rm0 m q ha hb1 hc1 hd1 c9) k_) ?_
  show own_Go p e below _ (s₁.setTop (mkF m 0 #[.val (.int q), .val (.long ha), .second, .val (.long hb1), .second, .val (.long hc1), .second, .val (.long hd1), .second, .val (.int c9), .unset, .unset, .unset, .unset, .unset, .unset, .unset] []))
  refine own_st (fun u_ k_ => XS.iloadN X0.here hx rfl (hb hby at_0) rfl k_) ?_
  show own_Go p e below _ (s₁.setTop (mkF m 1 #[.val (.int q), .val (.long ha), .second, .val (.long hb1), .second, .val (.long hc1), .second, .val (.long hd1), .second, .val (.int c9), .unset, .unset, .unset, .unset, .unset, .unset, .unset] [(.int q)]))
  refine own_st (fun u_ k_ => XS.bipush X0.here hx rfl (hb hby at_1) k_) ?_
  show own_Go p e below _ (s₁.setTop (mkF m 3 #[.val (.int q), .val (.long ha), .second, .val (.long hb1), .second, .val (.long hc1), .second, .val (.long hd1), .second, .val (.int c9), .unset, .unset, .unset, .unset, .unset, .unset, .unset] [(.int (63 : Int32)), (.int q)]))
  refine own_st (fun u_ k_ => XS.iand X0.here hx rfl (hb hby at_3) rfl k_) ?_
  show own_Go p e below _ (s₁.setTop (mkF m 4 #[.val (.int q), .val (.long ha), .second, .val (.long hb1), .second, .val (.long hc1), .second, .val (.long hd1), .second, .val (.int c9), .unset, .unset, .unset, .unset, .unset, .unset, .unset] [(.int (q &&& (63 : Int32)))]))
  obtain ⟨n, en, hn0, hn63⟩ := own_and63 q
  rw [en]
  show own_Go p e below _ (s₁.setTop (mkF m 4 #[.val (.int q), .val (.long ha), .second, .val (.long hb1), .second, .val (.long hc1), .second, .val (.long hd1), .second, .val (.int c9), .unset, .unset, .unset, .unset, .unset, .unset, .unset] [(.int n)]))
  refine own_st (fun u_ k_ => XS.istore X0.here hx rfl (hb hby at_4) rfl (l' := #[.val (.int q), .val (.long ha), .second, .val (.long hb1), .second, .val (.long hc1), .second, .val (.long hd1), .second, .val (.int c9), .val (.int n), .unset, .unset, .unset, .unset, .unset, .unset]) rfl k_) ?_
  show own_Go p e below _ (s₁.setTop (mkF m 6 #[.val (.int q), .val (.long ha), .second, .val (.long hb1), .second, .val (.long hc1), .second, .val (.long hd1), .second, .val (.int c9), .val (.int n), .unset, .unset, .unset, .unset, .unset, .unset] []))
  refine own_st (fun u_ k_ => XS.iload X0.here hx rfl (hb hby at_6) rfl k_) ?_
  show own_Go p e below _ (s₁.setTop (mkF m 8 #[.val (.int q), .val (.long ha), .second, .val (.long hb1), .second, .val (.long hc1), .second, .val (.long hd1), .second, .val (.int c9), .val (.int n), .unset, .unset, .unset, .unset, .unset, .unset] [(.int n)]))
  obtain ⟨T246, h246, k246, X246, e246, E246, A246, Y246, st246⟩ := newPE X0 hx hZ (own_w hw 0 rfl) e0 (g := (mkF m 8 #[.val (.int q), .val (.long ha), .second, .val (.long hb1), .second, .val (.long hc1), .second, .val (.long hd1), .second, .val (.int c9), .val (.int n), .unset, .unset, .unset, .unset, .unset, .unset] [(.int n)])) rfl (hb hby at_8) rfl hn0 (cap := 63) hn63 (by decide) (by decide) (by decide) (ad := "[B") own_lm_206
  obtain ⟨b246, g246⟩ : ∃ z, z = h0.size := ⟨_, rfl⟩
  rw [← g246] at A246 Y246 st246
  have V246 : Arv Z h246 b246 k246 .byte n (List.replicate 64 (.int (0 : Int32))) (.int (0 : Int32)) := (Arv.new A246 hn0).pad (pad_rep [] (.int (0 : Int32)) 64)
  refine own_st (fun u_ k_ => st246 u_ k_) ?_
  show own_Go p e below _ (T246.setTop (mkF m 10 #[.val (.int q), .val (.long ha), .second, .val (.long hb1), .second, .val (.long hc1), .second, .val (.long hd1), .second, .val (.int c9), .val (.int n), .unset, .unset, .unset, .unset, .unset, .unset] [(.ref b246)]))
  refine own_st (fun u_ k_ => XS.astore X246.here hx rfl (hb hby at_10) rfl rfl (l' := #[.val (.int q), .val (.long ha), .second, .val (.long hb1), .second, .val (.long hc1), .second, .val (.long hd1), .second, .val (.int c9), .val (.int n), .val (.ref b246), .unset, .unset, .unset, .unset, .unset]) rfl k_) ?_
  show own_Go p e below _ (T246.setTop (mkF m 12 #[.val (.int q), .val (.long ha), .second, .val (.long hb1), .second, .val (.long hc1), .second, .val (.long hd1), .second, .val (.int c9), .val (.int n), .val (.ref b246), .unset, .unset, .unset, .unset, .unset] []))
  refine own_st (fun u_ k_ => XS.iload X246.here hx rfl (hb hby at_12) rfl k_) ?_
  show own_Go p e below _ (T246.setTop (mkF m 14 #[.val (.int q), .val (.long ha), .second, .val (.long hb1), .second, .val (.long hc1), .second, .val (.long hd1), .second, .val (.int c9), .val (.int n), .val (.ref b246), .unset, .unset, .unset, .unset, .unset] [(.int n)]))
  refine own_st (fun u_ k_ => XS.bipush X246.here hx rfl (hb hby at_14) k_) ?_
  show own_Go p e below _ (T246.setTop (mkF m 16 #[.val (.int q), .val (.long ha), .second, .val (.long hb1), .second, .val (.long hc1), .second, .val (.long hd1), .second, .val (.int c9), .val (.int n), .val (.ref b246), .unset, .unset, .unset, .unset, .unset] [(.int (37 : Int32)), (.int n)]))
  by_cases hc247 : n < (37 : Int32)
  · refine own_st (fun u_ k_ => XS.icmpYes X246.here hx rfl (pc0 := 16) (pc' := 122) rfl (hb hby at_16) rfl (XT.ii_lt_t hc247) (by decide) (by decide) k_) ?_
    show own_Go p e below _ (T246.setTop (mkF m 122 #[.val (.int q), .val (.long ha), .second, .val (.long hb1), .second, .val (.long hc1), .second, .val (.long hd1), .second, .val (.int c9), .val (.int n), .val (.ref b246), .unset, .unset, .unset, .unset, .unset] []))
    refine own_st (fun u_ k_ => XS.aload X246.here hx rfl (hb hby at_122) rfl rfl k_) ?_
    show own_Go p e below _ (T246.setTop (mkF m 124 #[.val (.int q), .val (.long ha), .second, .val (.long hb1), .second, .val (.long hc1), .second, .val (.long hd1), .second, .val (.int c9), .val (.int n), .val (.ref b246), .unset, .unset, .unset, .unset, .unset] [(.ref b246)]))
    have O249 : Old Z n0 h246 := O0.ext E246
    obtain ⟨T248, v248, L248, X248, hQ248, st248⟩ := own_callS X246 hx hZ (y := own_y_325) hown (own_w hw 1 rfl) (own_w hw 2 rfl) (own_w hw 3 rfl) (own_w hw 4 rfl) own_lm_238 (rmAe l Z a0 hw [] we hS b246 k246 n (List.replicate 64 (.int (0 : Int32))) h246 n0 O249 V246 hc247) e246 own_pd_346 (argsL := [(.ref b246)]) (rest := []) rfl rfl (g := (mkF m 124 #[.val (.int q), .val (.long ha), .second, .val (.long hb1), .second, .val (.long hc1), .second, .val (.long hd1), .second, .val (.int c9), .val (.int n), .val (.ref b246), .unset, .unset, .unset, .unset, .unset] [(.ref b246)])) rfl (by rw [hml]; rfl) rfl (hb hby at_124) (W := 0) rfl (by decide) (by decide) (by decide) (by decide)
    obtain ⟨rfl, M248, e248⟩ := hQ248
    have N248 := Fr.app N0 M248
    refine own_st (fun u_ k_ => st248 u_ k_) ?_
    show own_Go p e below _ (T248.setTop (mkF m 127 #[.val (.int q), .val (.long ha), .second, .val (.long hb1), .second, .val (.long hc1), .second, .val (.long hd1), .second, .val (.int c9), .val (.int n), .val (.ref b246), .unset, .unset, .unset, .unset, .unset] [(.ref we)]))
    refine own_st (fun u_ k_ => XS.astore X248.here hx rfl (hb hby at_127) rfl rfl (l' := #[.val (.int q), .val (.long ha), .second, .val (.long hb1), .second, .val (.long hc1), .second, .val (.long hd1), .second, .val (.int c9), .val (.int n), .val (.ref b246), .val (.ref we), .unset, .unset, .unset, .unset]) rfl k_) ?_
    show own_Go p e below _ (T248.setTop (mkF m 129 #[.val (.int q), .val (.long ha), .second, .val (.long hb1), .second, .val (.long hc1), .second, .val (.long hd1), .second, .val (.int c9), .val (.int n), .val (.ref b246), .val (.ref we), .unset, .unset, .unset, .unset] []))
    refine own_st (fun u_ k_ => XS.iload X248.here hx rfl (hb hby at_129) rfl k_) ?_
    show own_Go p e below _ (T248.setTop (mkF m 131 #[.val (.int q), .val (.long ha), .second, .val (.long hb1), .second, .val (.long hc1), .second, .val (.long hd1), .second, .val (.int c9), .val (.int n), .val (.ref b246), .val (.ref we), .unset, .unset, .unset, .unset] [(.int n)]))
    refine own_st (fun u_ k_ => XS.bipush X248.here hx rfl (hb hby at_131) k_) ?_
    show own_Go p e below _ (T248.setTop (mkF m 133 #[.val (.int q), .val (.long ha), .second, .val (.long hb1), .second, .val (.long hc1), .second, .val (.long hd1), .second, .val (.int c9), .val (.int n), .val (.ref b246), .val (.ref we), .unset, .unset, .unset, .unset] [(.int (37 : Int32)), (.int n)]))
    refine own_st (fun u_ k_ => XS.icmpNo X248.here hx rfl (hb hby at_133) rfl (XT.ii_ge_f hc247) k_) ?_
    show own_Go p e below _ (T248.setTop (mkF m 136 #[.val (.int q), .val (.long ha), .second, .val (.long hb1), .second, .val (.long hc1), .second, .val (.long hd1), .second, .val (.int c9), .val (.int n), .val (.ref b246), .val (.ref we), .unset, .unset, .unset, .unset] []))
    refine own_st (fun u_ k_ => XS.aload X248.here hx rfl (hb hby at_136) rfl rfl k_) ?_
    show own_Go p e below _ (T248.setTop (mkF m 138 #[.val (.int q), .val (.long ha), .second, .val (.long hb1), .second, .val (.long hc1), .second, .val (.long hd1), .second, .val (.int c9), .val (.int n), .val (.ref b246), .val (.ref we), .unset, .unset, .unset, .unset] [(.ref we)]))
    have F250 := Fld.ext O249.2 hS.2.2
    have F252 := Exa.ext O249.2 hS.2.1
    obtain ⟨T251, v251, L251, X251, hQ251, st251⟩ := own_callV X248 hx hZ (y := own_y_308) (z := own_y_308) hown (own_w hw 10 rfl) (own_w hw 11 rfl) (notFace_of_selects (args := #[]) (mvT hZ (own_w hw 13 rfl))) (own_w hw 13 rfl) (own_w hw 12 rfl) (own_w hw 7 rfl) (own_w hw 14 rfl) own_lm_299 (rmOp0 l Z a0 hw [] we hS we h246 n0 O249 F250) e248 F252 own_pd_347 (argsL := []) (rest := []) rfl rfl (g := (mkF m 138 #[.val (.int q), .val (.long ha), .second, .val (.long hb1), .second, .val (.long hc1), .second, .val (.long hd1), .second, .val (.int c9), .val (.int n), .val (.ref b246), .val (.ref we), .unset, .unset, .unset, .unset] [(.ref we)])) rfl (by rw [hml]; rfl) rfl (hb hby at_138) (W := 0) rfl (by decide) (by decide) (by decide) (by decide)
    obtain ⟨rfl, M251, e251⟩ := hQ251
    have N251 := Fr.app N248 M251
    refine own_st (fun u_ k_ => st251 u_ k_) ?_
    show own_Go p e below _ (T251.setTop (mkF m 141 #[.val (.int q), .val (.long ha), .second, .val (.long hb1), .second, .val (.long hc1), .second, .val (.long hd1), .second, .val (.int c9), .val (.int n), .val (.ref b246), .val (.ref we), .unset, .unset, .unset, .unset] [(.int (0 : Int32))]))
    refine own_st (fun u_ k_ => XS.ifNo X251.here hx rfl (hb hby at_141) rfl (XT.i0_ne_f (by decide)) k_) ?_
    show own_Go p e below _ (T251.setTop (mkF m 144 #[.val (.int q), .val (.long ha), .second, .val (.long hb1), .second, .val (.long hc1), .second, .val (.long hd1), .second, .val (.int c9), .val (.int n), .val (.ref b246), .val (.ref we), .unset, .unset, .unset, .unset] []))
    refine own_st (fun u_ k_ => XS.iconst X251.here hx rfl (hb hby at_144) k_) ?_
    show own_Go p e below _ (T251.setTop (mkF m 145 #[.val (.int q), .val (.long ha), .second, .val (.long hb1), .second, .val (.long hc1), .second, .val (.long hd1), .second, .val (.int c9), .val (.int n), .val (.ref b246), .val (.ref we), .unset, .unset, .unset, .unset] [(.int (1 : Int32))]))
    refine own_st (fun u_ k_ => XS.goto X251.here hx rfl (pc0 := 145) (pc' := 149) rfl (hb hby at_145) (by decide) (by decide) k_) ?_
    show own_Go p e below _ (T251.setTop (mkF m 149 #[.val (.int q), .val (.long ha), .second, .val (.long hb1), .second, .val (.long hc1), .second, .val (.long hd1), .second, .val (.int c9), .val (.int n), .val (.ref b246), .val (.ref we), .unset, .unset, .unset, .unset] [(.int (1 : Int32))]))
    have K253 : Keep h0 h246 [] := (Keep.refl h0 []).ext E246
    exact own_retX X251 hx hlk hret rfl (Or.inl ⟨rfl, by simp, _, rfl⟩) (hb hby at_149) (by decide) (by decide) (show Qrm0 Z we q ha hb1 hc1 hd1 c9 h0 n0 (some (.int (1 : Int32))) T251.heap _ from (by rw [e251]; exact ⟨rfl, N251, K253⟩))
  · refine own_st (fun u_ k_ => XS.icmpNo X246.here hx rfl (hb hby at_16) rfl (XT.ii_lt_f hc247) k_) ?_
    show own_Go p e below _ (T246.setTop (mkF m 19 #[.val (.int q), .val (.long ha), .second, .val (.long hb1), .second, .val (.long hc1), .second, .val (.long hd1), .second, .val (.int c9), .val (.int n), .val (.ref b246), .unset, .unset, .unset, .unset, .unset] []))
    refine own_st (fun u_ k_ => XS.aload X246.here hx rfl (hb hby at_19) rfl rfl k_) ?_
    show own_Go p e below _ (T246.setTop (mkF m 21 #[.val (.int q), .val (.long ha), .second, .val (.long hb1), .second, .val (.long hc1), .second, .val (.long hd1), .second, .val (.int c9), .val (.int n), .val (.ref b246), .unset, .unset, .unset, .unset, .unset] [(.ref b246)]))
    refine own_st (fun u_ k_ => XS.iconst X246.here hx rfl (hb hby at_21) k_) ?_
    show own_Go p e below _ (T246.setTop (mkF m 22 #[.val (.int q), .val (.long ha), .second, .val (.long hb1), .second, .val (.long hc1), .second, .val (.long hd1), .second, .val (.int c9), .val (.int n), .val (.ref b246), .unset, .unset, .unset, .unset, .unset] [(.int (0 : Int32)), (.ref b246)]))
    refine own_st (fun u_ k_ => XS.lloadN X246.here hx rfl (hb hby at_22) rfl k_) ?_
    show own_Go p e below _ (T246.setTop (mkF m 23 #[.val (.int q), .val (.long ha), .second, .val (.long hb1), .second, .val (.long hc1), .second, .val (.long hd1), .second, .val (.int c9), .val (.int n), .val (.ref b246), .unset, .unset, .unset, .unset, .unset] [(.long ha), (.int (0 : Int32)), (.ref b246)]))
    have g254 : n0 ≤ b246 := Nat.le_trans (own_nl O0) (Nat.le_of_eq g246.symm)
    have O256 : Old Z n0 h246 := O0.ext E246
    obtain ⟨T255, v255, L255, X255, hQ255, st255⟩ := own_callS X246 hx hZ (y := own_y_77) hown (own_w hw 17 rfl) (own_w hw 18 rfl) (own_w hw 19 rfl) (own_w hw 20 rfl) own_lm_348 (rmP0 l Z a0 hw [] we hS b246 k246 n (List.replicate 64 (.int (0 : Int32))) ha h246 n0 O256 V246 g254 (by simp only [own_putL, List.length_replicate]) hc247) e246 own_pd_349 (argsL := [(.ref b246), (.int (0 : Int32)), (.long ha)]) (rest := []) rfl rfl (g := (mkF m 23 #[.val (.int q), .val (.long ha), .second, .val (.long hb1), .second, .val (.long hc1), .second, .val (.long hd1), .second, .val (.int c9), .val (.int n), .val (.ref b246), .unset, .unset, .unset, .unset, .unset] [(.long ha), (.int (0 : Int32)), (.ref b246)])) rfl (by rw [hml]; rfl) rfl (hb hby at_23) (W := 0) rfl (by decide) (by decide) (by decide) (by decide)
    obtain ⟨rfl, M255, K255, F257⟩ := hQ255
    have N255 := Fr.app N0 M255
    refine own_st (fun u_ k_ => st255 u_ k_) ?_
    show own_Go p e below _ (T255.setTop (mkF m 26 #[.val (.int q), .val (.long ha), .second, .val (.long hb1), .second, .val (.long hc1), .second, .val (.long hd1), .second, .val (.int c9), .val (.int n), .val (.ref b246), .unset, .unset, .unset, .unset, .unset] []))
    refine own_st (fun u_ k_ => XS.aload X255.here hx rfl (hb hby at_26) rfl rfl k_) ?_
    show own_Go p e below _ (T255.setTop (mkF m 28 #[.val (.int q), .val (.long ha), .second, .val (.long hb1), .second, .val (.long hc1), .second, .val (.long hd1), .second, .val (.int c9), .val (.int n), .val (.ref b246), .unset, .unset, .unset, .unset, .unset] [(.ref b246)]))
    refine own_st (fun u_ k_ => XS.bipush X255.here hx rfl (hb hby at_28) k_) ?_
    show own_Go p e below _ (T255.setTop (mkF m 30 #[.val (.int q), .val (.long ha), .second, .val (.long hb1), .second, .val (.long hc1), .second, .val (.long hd1), .second, .val (.int c9), .val (.int n), .val (.ref b246), .unset, .unset, .unset, .unset, .unset] [(.int (8 : Int32)), (.ref b246)]))
    refine own_st (fun u_ k_ => XS.lloadN X255.here hx rfl (hb hby at_30) rfl k_) ?_
    show own_Go p e below _ (T255.setTop (mkF m 31 #[.val (.int q), .val (.long ha), .second, .val (.long hb1), .second, .val (.long hc1), .second, .val (.long hd1), .second, .val (.int c9), .val (.int n), .val (.ref b246), .unset, .unset, .unset, .unset, .unset] [(.long hb1), (.int (8 : Int32)), (.ref b246)]))
    have O259 : Old Z n0 T255.heap := O256.keep K255 (allS g254 all0)
    obtain ⟨T258, v258, L258, X258, hQ258, st258⟩ := own_callS X255 hx hZ (y := own_y_77) hown (own_w hw 17 rfl) (own_w hw 18 rfl) (own_w hw 19 rfl) (own_w hw 20 rfl) own_lm_348 (rmP8 l Z a0 hw [] we hS b246 k246 n (own_put 0 (List.replicate 64 (.int (0 : Int32))) (.int ((((ha.toUInt64 >>> ((56 : Int32) &&& 0x3f).toInt64.toUInt64).toInt64).toInt32).toInt8.toInt32)) (.int ((((ha.toUInt64 >>> ((48 : Int32) &&& 0x3f).toInt64.toUInt64).toInt64).toInt32).toInt8.toInt32)) (.int ((((ha.toUInt64 >>> ((40 : Int32) &&& 0x3f).toInt64.toUInt64).toInt64).toInt32).toInt8.toInt32)) (.int ((((ha.toUInt64 >>> ((32 : Int32) &&& 0x3f).toInt64.toUInt64).toInt64).toInt32).toInt8.toInt32)) (.int ((((ha.toUInt64 >>> ((24 : Int32) &&& 0x3f).toInt64.toUInt64).toInt64).toInt32).toInt8.toInt32)) (.int ((((ha.toUInt64 >>> ((16 : Int32) &&& 0x3f).toInt64.toUInt64).toInt64).toInt32).toInt8.toInt32)) (.int ((((ha.toUInt64 >>> ((8 : Int32) &&& 0x3f).toInt64.toUInt64).toInt64).toInt32).toInt8.toInt32)) (.int ((ha.toInt32).toInt8.toInt32))) hb1 T255.heap n0 O259 F257 g254 (by simp only [own_putL, List.length_replicate]) hc247) rfl own_pd_349 (argsL := [(.ref b246), (.int (8 : Int32)), (.long hb1)]) (rest := []) rfl rfl (g := (mkF m 31 #[.val (.int q), .val (.long ha), .second, .val (.long hb1), .second, .val (.long hc1), .second, .val (.long hd1), .second, .val (.int c9), .val (.int n), .val (.ref b246), .unset, .unset, .unset, .unset, .unset] [(.long hb1), (.int (8 : Int32)), (.ref b246)])) rfl (by rw [hml]; rfl) rfl (hb hby at_31) (W := 0) rfl (by decide) (by decide) (by decide) (by decide)
    obtain ⟨rfl, M258, K258, F260⟩ := hQ258
    have N258 := Fr.app N255 M258
    refine own_st (fun u_ k_ => st258 u_ k_) ?_
    show own_Go p e below _ (T258.setTop (mkF m 34 #[.val (.int q), .val (.long ha), .second, .val (.long hb1), .second, .val (.long hc1), .second, .val (.long hd1), .second, .val (.int c9), .val (.int n), .val (.ref b246), .unset, .unset, .unset, .unset, .unset] []))
    refine own_st (fun u_ k_ => XS.aload X258.here hx rfl (hb hby at_34) rfl rfl k_) ?_
    show own_Go p e below _ (T258.setTop (mkF m 36 #[.val (.int q), .val (.long ha), .second, .val (.long hb1), .second, .val (.long hc1), .second, .val (.long hd1), .second, .val (.int c9), .val (.int n), .val (.ref b246), .unset, .unset, .unset, .unset, .unset] [(.ref b246)]))
    refine own_st (fun u_ k_ => XS.bipush X258.here hx rfl (hb hby at_36) k_) ?_
    show own_Go p e below _ (T258.setTop (mkF m 38 #[.val (.int q), .val (.long ha), .second, .val (.long hb1), .second, .val (.long hc1), .second, .val (.long hd1), .second, .val (.int c9), .val (.int n), .val (.ref b246), .unset, .unset, .unset, .unset, .unset] [(.int (16 : Int32)), (.ref b246)]))
    refine own_st (fun u_ k_ => XS.lload X258.here hx rfl (hb hby at_38) rfl k_) ?_
    show own_Go p e below _ (T258.setTop (mkF m 40 #[.val (.int q), .val (.long ha), .second, .val (.long hb1), .second, .val (.long hc1), .second, .val (.long hd1), .second, .val (.int c9), .val (.int n), .val (.ref b246), .unset, .unset, .unset, .unset, .unset] [(.long hc1), (.int (16 : Int32)), (.ref b246)]))
    have O262 : Old Z n0 T258.heap := O259.keep K258 (allS g254 all0)
    obtain ⟨T261, v261, L261, X261, hQ261, st261⟩ := own_callS X258 hx hZ (y := own_y_77) hown (own_w hw 17 rfl) (own_w hw 18 rfl) (own_w hw 19 rfl) (own_w hw 20 rfl) own_lm_348 (rmP16 l Z a0 hw [] we hS b246 k246 n (own_put 8 (own_put 0 (List.replicate 64 (.int (0 : Int32))) (.int ((((ha.toUInt64 >>> ((56 : Int32) &&& 0x3f).toInt64.toUInt64).toInt64).toInt32).toInt8.toInt32)) (.int ((((ha.toUInt64 >>> ((48 : Int32) &&& 0x3f).toInt64.toUInt64).toInt64).toInt32).toInt8.toInt32)) (.int ((((ha.toUInt64 >>> ((40 : Int32) &&& 0x3f).toInt64.toUInt64).toInt64).toInt32).toInt8.toInt32)) (.int ((((ha.toUInt64 >>> ((32 : Int32) &&& 0x3f).toInt64.toUInt64).toInt64).toInt32).toInt8.toInt32)) (.int ((((ha.toUInt64 >>> ((24 : Int32) &&& 0x3f).toInt64.toUInt64).toInt64).toInt32).toInt8.toInt32)) (.int ((((ha.toUInt64 >>> ((16 : Int32) &&& 0x3f).toInt64.toUInt64).toInt64).toInt32).toInt8.toInt32)) (.int ((((ha.toUInt64 >>> ((8 : Int32) &&& 0x3f).toInt64.toUInt64).toInt64).toInt32).toInt8.toInt32)) (.int ((ha.toInt32).toInt8.toInt32))) (.int ((((hb1.toUInt64 >>> ((56 : Int32) &&& 0x3f).toInt64.toUInt64).toInt64).toInt32).toInt8.toInt32)) (.int ((((hb1.toUInt64 >>> ((48 : Int32) &&& 0x3f).toInt64.toUInt64).toInt64).toInt32).toInt8.toInt32)) (.int ((((hb1.toUInt64 >>> ((40 : Int32) &&& 0x3f).toInt64.toUInt64).toInt64).toInt32).toInt8.toInt32)) (.int ((((hb1.toUInt64 >>> ((32 : Int32) &&& 0x3f).toInt64.toUInt64).toInt64).toInt32).toInt8.toInt32)) (.int ((((hb1.toUInt64 >>> ((24 : Int32) &&& 0x3f).toInt64.toUInt64).toInt64).toInt32).toInt8.toInt32)) (.int ((((hb1.toUInt64 >>> ((16 : Int32) &&& 0x3f).toInt64.toUInt64).toInt64).toInt32).toInt8.toInt32)) (.int ((((hb1.toUInt64 >>> ((8 : Int32) &&& 0x3f).toInt64.toUInt64).toInt64).toInt32).toInt8.toInt32)) (.int ((hb1.toInt32).toInt8.toInt32))) hc1 T258.heap n0 O262 F260 g254 (by simp only [own_putL, List.length_replicate]) hc247) rfl own_pd_349 (argsL := [(.ref b246), (.int (16 : Int32)), (.long hc1)]) (rest := []) rfl rfl (g := (mkF m 40 #[.val (.int q), .val (.long ha), .second, .val (.long hb1), .second, .val (.long hc1), .second, .val (.long hd1), .second, .val (.int c9), .val (.int n), .val (.ref b246), .unset, .unset, .unset, .unset, .unset] [(.long hc1), (.int (16 : Int32)), (.ref b246)])) rfl (by rw [hml]; rfl) rfl (hb hby at_40) (W := 0) rfl (by decide) (by decide) (by decide) (by decide)
    obtain ⟨rfl, M261, K261, F263⟩ := hQ261
    have N261 := Fr.app N258 M261
    refine own_st (fun u_ k_ => st261 u_ k_) ?_
    show own_Go p e below _ (T261.setTop (mkF m 43 #[.val (.int q), .val (.long ha), .second, .val (.long hb1), .second, .val (.long hc1), .second, .val (.long hd1), .second, .val (.int c9), .val (.int n), .val (.ref b246), .unset, .unset, .unset, .unset, .unset] []))
    refine own_st (fun u_ k_ => XS.aload X261.here hx rfl (hb hby at_43) rfl rfl k_) ?_
    show own_Go p e below _ (T261.setTop (mkF m 45 #[.val (.int q), .val (.long ha), .second, .val (.long hb1), .second, .val (.long hc1), .second, .val (.long hd1), .second, .val (.int c9), .val (.int n), .val (.ref b246), .unset, .unset, .unset, .unset, .unset] [(.ref b246)]))
    refine own_st (fun u_ k_ => XS.bipush X261.here hx rfl (hb hby at_45) k_) ?_
    show own_Go p e below _ (T261.setTop (mkF m 47 #[.val (.int q), .val (.long ha), .second, .val (.long hb1), .second, .val (.long hc1), .second, .val (.long hd1), .second, .val (.int c9), .val (.int n), .val (.ref b246), .unset, .unset, .unset, .unset, .unset] [(.int (24 : Int32)), (.ref b246)]))
    refine own_st (fun u_ k_ => XS.lload X261.here hx rfl (hb hby at_47) rfl k_) ?_
    show own_Go p e below _ (T261.setTop (mkF m 49 #[.val (.int q), .val (.long ha), .second, .val (.long hb1), .second, .val (.long hc1), .second, .val (.long hd1), .second, .val (.int c9), .val (.int n), .val (.ref b246), .unset, .unset, .unset, .unset, .unset] [(.long hd1), (.int (24 : Int32)), (.ref b246)]))
    have O265 : Old Z n0 T261.heap := O262.keep K261 (allS g254 all0)
    obtain ⟨T264, v264, L264, X264, hQ264, st264⟩ := own_callS X261 hx hZ (y := own_y_77) hown (own_w hw 17 rfl) (own_w hw 18 rfl) (own_w hw 19 rfl) (own_w hw 20 rfl) own_lm_348 (rmP24 l Z a0 hw [] we hS b246 k246 n (own_put 16 (own_put 8 (own_put 0 (List.replicate 64 (.int (0 : Int32))) (.int ((((ha.toUInt64 >>> ((56 : Int32) &&& 0x3f).toInt64.toUInt64).toInt64).toInt32).toInt8.toInt32)) (.int ((((ha.toUInt64 >>> ((48 : Int32) &&& 0x3f).toInt64.toUInt64).toInt64).toInt32).toInt8.toInt32)) (.int ((((ha.toUInt64 >>> ((40 : Int32) &&& 0x3f).toInt64.toUInt64).toInt64).toInt32).toInt8.toInt32)) (.int ((((ha.toUInt64 >>> ((32 : Int32) &&& 0x3f).toInt64.toUInt64).toInt64).toInt32).toInt8.toInt32)) (.int ((((ha.toUInt64 >>> ((24 : Int32) &&& 0x3f).toInt64.toUInt64).toInt64).toInt32).toInt8.toInt32)) (.int ((((ha.toUInt64 >>> ((16 : Int32) &&& 0x3f).toInt64.toUInt64).toInt64).toInt32).toInt8.toInt32)) (.int ((((ha.toUInt64 >>> ((8 : Int32) &&& 0x3f).toInt64.toUInt64).toInt64).toInt32).toInt8.toInt32)) (.int ((ha.toInt32).toInt8.toInt32))) (.int ((((hb1.toUInt64 >>> ((56 : Int32) &&& 0x3f).toInt64.toUInt64).toInt64).toInt32).toInt8.toInt32)) (.int ((((hb1.toUInt64 >>> ((48 : Int32) &&& 0x3f).toInt64.toUInt64).toInt64).toInt32).toInt8.toInt32)) (.int ((((hb1.toUInt64 >>> ((40 : Int32) &&& 0x3f).toInt64.toUInt64).toInt64).toInt32).toInt8.toInt32)) (.int ((((hb1.toUInt64 >>> ((32 : Int32) &&& 0x3f).toInt64.toUInt64).toInt64).toInt32).toInt8.toInt32)) (.int ((((hb1.toUInt64 >>> ((24 : Int32) &&& 0x3f).toInt64.toUInt64).toInt64).toInt32).toInt8.toInt32)) (.int ((((hb1.toUInt64 >>> ((16 : Int32) &&& 0x3f).toInt64.toUInt64).toInt64).toInt32).toInt8.toInt32)) (.int ((((hb1.toUInt64 >>> ((8 : Int32) &&& 0x3f).toInt64.toUInt64).toInt64).toInt32).toInt8.toInt32)) (.int ((hb1.toInt32).toInt8.toInt32))) (.int ((((hc1.toUInt64 >>> ((56 : Int32) &&& 0x3f).toInt64.toUInt64).toInt64).toInt32).toInt8.toInt32)) (.int ((((hc1.toUInt64 >>> ((48 : Int32) &&& 0x3f).toInt64.toUInt64).toInt64).toInt32).toInt8.toInt32)) (.int ((((hc1.toUInt64 >>> ((40 : Int32) &&& 0x3f).toInt64.toUInt64).toInt64).toInt32).toInt8.toInt32)) (.int ((((hc1.toUInt64 >>> ((32 : Int32) &&& 0x3f).toInt64.toUInt64).toInt64).toInt32).toInt8.toInt32)) (.int ((((hc1.toUInt64 >>> ((24 : Int32) &&& 0x3f).toInt64.toUInt64).toInt64).toInt32).toInt8.toInt32)) (.int ((((hc1.toUInt64 >>> ((16 : Int32) &&& 0x3f).toInt64.toUInt64).toInt64).toInt32).toInt8.toInt32)) (.int ((((hc1.toUInt64 >>> ((8 : Int32) &&& 0x3f).toInt64.toUInt64).toInt64).toInt32).toInt8.toInt32)) (.int ((hc1.toInt32).toInt8.toInt32))) hd1 T261.heap n0 O265 F263 g254 (by simp only [own_putL, List.length_replicate]) hc247) rfl own_pd_349 (argsL := [(.ref b246), (.int (24 : Int32)), (.long hd1)]) (rest := []) rfl rfl (g := (mkF m 49 #[.val (.int q), .val (.long ha), .second, .val (.long hb1), .second, .val (.long hc1), .second, .val (.long hd1), .second, .val (.int c9), .val (.int n), .val (.ref b246), .unset, .unset, .unset, .unset, .unset] [(.long hd1), (.int (24 : Int32)), (.ref b246)])) rfl (by rw [hml]; rfl) rfl (hb hby at_49) (W := 0) rfl (by decide) (by decide) (by decide) (by decide)
    obtain ⟨rfl, M264, K264, F266⟩ := hQ264
    have N264 := Fr.app N261 M264
    refine own_st (fun u_ k_ => st264 u_ k_) ?_
    show own_Go p e below _ (T264.setTop (mkF m 52 #[.val (.int q), .val (.long ha), .second, .val (.long hb1), .second, .val (.long hc1), .second, .val (.long hd1), .second, .val (.int c9), .val (.int n), .val (.ref b246), .unset, .unset, .unset, .unset, .unset] []))
    refine own_st (fun u_ k_ => XS.aload X264.here hx rfl (hb hby at_52) rfl rfl k_) ?_
    show own_Go p e below _ (T264.setTop (mkF m 54 #[.val (.int q), .val (.long ha), .second, .val (.long hb1), .second, .val (.long hc1), .second, .val (.long hd1), .second, .val (.int c9), .val (.int n), .val (.ref b246), .unset, .unset, .unset, .unset, .unset] [(.ref b246)]))
    refine own_st (fun u_ k_ => XS.bipush X264.here hx rfl (hb hby at_54) k_) ?_
    show own_Go p e below _ (T264.setTop (mkF m 56 #[.val (.int q), .val (.long ha), .second, .val (.long hb1), .second, .val (.long hc1), .second, .val (.long hd1), .second, .val (.int c9), .val (.int n), .val (.ref b246), .unset, .unset, .unset, .unset, .unset] [(.int (32 : Int32)), (.ref b246)]))
    refine own_st (fun u_ k_ => XS.iloadN X264.here hx rfl (hb hby at_56) rfl k_) ?_
    show own_Go p e below _ (T264.setTop (mkF m 57 #[.val (.int q), .val (.long ha), .second, .val (.long hb1), .second, .val (.long hc1), .second, .val (.long hd1), .second, .val (.int c9), .val (.int n), .val (.ref b246), .unset, .unset, .unset, .unset, .unset] [(.int q), (.int (32 : Int32)), (.ref b246)]))
    refine own_st (fun u_ k_ => XS.bipush X264.here hx rfl (hb hby at_57) k_) ?_
    show own_Go p e below _ (T264.setTop (mkF m 59 #[.val (.int q), .val (.long ha), .second, .val (.long hb1), .second, .val (.long hc1), .second, .val (.long hd1), .second, .val (.int c9), .val (.int n), .val (.ref b246), .unset, .unset, .unset, .unset, .unset] [(.int (8 : Int32)), (.int q), (.int (32 : Int32)), (.ref b246)]))
    refine own_st (fun u_ k_ => XS.ishr X264.here hx rfl (hb hby at_59) rfl k_) ?_
    show own_Go p e below _ (T264.setTop (mkF m 60 #[.val (.int q), .val (.long ha), .second, .val (.long hb1), .second, .val (.long hc1), .second, .val (.long hd1), .second, .val (.int c9), .val (.int n), .val (.ref b246), .unset, .unset, .unset, .unset, .unset] [(.int (q >>> ((8 : Int32) &&& 31))), (.int (32 : Int32)), (.ref b246)]))
    refine own_st (fun u_ k_ => XS.i2b X264.here hx rfl (hb hby at_60) rfl k_) ?_
    show own_Go p e below _ (T264.setTop (mkF m 61 #[.val (.int q), .val (.long ha), .second, .val (.long hb1), .second, .val (.long hc1), .second, .val (.long hd1), .second, .val (.int c9), .val (.int n), .val (.ref b246), .unset, .unset, .unset, .unset, .unset] [(.int ((q >>> ((8 : Int32) &&& 31)).toInt8.toInt32)), (.int (32 : Int32)), (.ref b246)]))
    obtain ⟨cl267, Ar267, q267, S267, N267, H267, G267⟩ := id F266
    have hi267 : ¬ ((32 : Int32) < 0 ∨ cl267.slots.size ≤ ((32 : Int32)).toNatClampNeg) := inb_of S267 ⟨by decide, own_lt37 hc247 (by decide)⟩
    obtain ⟨T268, h268, X268, e268, W268, st268⟩ := stB X264 hx hZ rfl Ar267 (j := (32 : Int32)) hi267 (g := (mkF m 61 #[.val (.int q), .val (.long ha), .second, .val (.long hb1), .second, .val (.long hc1), .second, .val (.long hd1), .second, .val (.int c9), .val (.int n), .val (.ref b246), .unset, .unset, .unset, .unset, .unset] [(.int ((q >>> ((8 : Int32) &&& 31)).toInt8.toInt32)), (.int (32 : Int32)), (.ref b246)])) rfl rfl (hb hby at_61)
    rw [own_bb] at W268
    have N268 := Fr.snoc X268 N264 g254
    have V268 : Arv Z h268 b246 k246 .byte n (List.set (own_put 24 (own_put 16 (own_put 8 (own_put 0 (List.replicate 64 (.int (0 : Int32))) (.int ((((ha.toUInt64 >>> ((56 : Int32) &&& 0x3f).toInt64.toUInt64).toInt64).toInt32).toInt8.toInt32)) (.int ((((ha.toUInt64 >>> ((48 : Int32) &&& 0x3f).toInt64.toUInt64).toInt64).toInt32).toInt8.toInt32)) (.int ((((ha.toUInt64 >>> ((40 : Int32) &&& 0x3f).toInt64.toUInt64).toInt64).toInt32).toInt8.toInt32)) (.int ((((ha.toUInt64 >>> ((32 : Int32) &&& 0x3f).toInt64.toUInt64).toInt64).toInt32).toInt8.toInt32)) (.int ((((ha.toUInt64 >>> ((24 : Int32) &&& 0x3f).toInt64.toUInt64).toInt64).toInt32).toInt8.toInt32)) (.int ((((ha.toUInt64 >>> ((16 : Int32) &&& 0x3f).toInt64.toUInt64).toInt64).toInt32).toInt8.toInt32)) (.int ((((ha.toUInt64 >>> ((8 : Int32) &&& 0x3f).toInt64.toUInt64).toInt64).toInt32).toInt8.toInt32)) (.int ((ha.toInt32).toInt8.toInt32))) (.int ((((hb1.toUInt64 >>> ((56 : Int32) &&& 0x3f).toInt64.toUInt64).toInt64).toInt32).toInt8.toInt32)) (.int ((((hb1.toUInt64 >>> ((48 : Int32) &&& 0x3f).toInt64.toUInt64).toInt64).toInt32).toInt8.toInt32)) (.int ((((hb1.toUInt64 >>> ((40 : Int32) &&& 0x3f).toInt64.toUInt64).toInt64).toInt32).toInt8.toInt32)) (.int ((((hb1.toUInt64 >>> ((32 : Int32) &&& 0x3f).toInt64.toUInt64).toInt64).toInt32).toInt8.toInt32)) (.int ((((hb1.toUInt64 >>> ((24 : Int32) &&& 0x3f).toInt64.toUInt64).toInt64).toInt32).toInt8.toInt32)) (.int ((((hb1.toUInt64 >>> ((16 : Int32) &&& 0x3f).toInt64.toUInt64).toInt64).toInt32).toInt8.toInt32)) (.int ((((hb1.toUInt64 >>> ((8 : Int32) &&& 0x3f).toInt64.toUInt64).toInt64).toInt32).toInt8.toInt32)) (.int ((hb1.toInt32).toInt8.toInt32))) (.int ((((hc1.toUInt64 >>> ((56 : Int32) &&& 0x3f).toInt64.toUInt64).toInt64).toInt32).toInt8.toInt32)) (.int ((((hc1.toUInt64 >>> ((48 : Int32) &&& 0x3f).toInt64.toUInt64).toInt64).toInt32).toInt8.toInt32)) (.int ((((hc1.toUInt64 >>> ((40 : Int32) &&& 0x3f).toInt64.toUInt64).toInt64).toInt32).toInt8.toInt32)) (.int ((((hc1.toUInt64 >>> ((32 : Int32) &&& 0x3f).toInt64.toUInt64).toInt64).toInt32).toInt8.toInt32)) (.int ((((hc1.toUInt64 >>> ((24 : Int32) &&& 0x3f).toInt64.toUInt64).toInt64).toInt32).toInt8.toInt32)) (.int ((((hc1.toUInt64 >>> ((16 : Int32) &&& 0x3f).toInt64.toUInt64).toInt64).toInt32).toInt8.toInt32)) (.int ((((hc1.toUInt64 >>> ((8 : Int32) &&& 0x3f).toInt64.toUInt64).toInt64).toInt32).toInt8.toInt32)) (.int ((hc1.toInt32).toInt8.toInt32))) (.int ((((hd1.toUInt64 >>> ((56 : Int32) &&& 0x3f).toInt64.toUInt64).toInt64).toInt32).toInt8.toInt32)) (.int ((((hd1.toUInt64 >>> ((48 : Int32) &&& 0x3f).toInt64.toUInt64).toInt64).toInt32).toInt8.toInt32)) (.int ((((hd1.toUInt64 >>> ((40 : Int32) &&& 0x3f).toInt64.toUInt64).toInt64).toInt32).toInt8.toInt32)) (.int ((((hd1.toUInt64 >>> ((32 : Int32) &&& 0x3f).toInt64.toUInt64).toInt64).toInt32).toInt8.toInt32)) (.int ((((hd1.toUInt64 >>> ((24 : Int32) &&& 0x3f).toInt64.toUInt64).toInt64).toInt32).toInt8.toInt32)) (.int ((((hd1.toUInt64 >>> ((16 : Int32) &&& 0x3f).toInt64.toUInt64).toInt64).toInt32).toInt8.toInt32)) (.int ((((hd1.toUInt64 >>> ((8 : Int32) &&& 0x3f).toInt64.toUInt64).toInt64).toInt32).toInt8.toInt32)) (.int ((hd1.toInt32).toInt8.toInt32))) 32 (.int ((q >>> ((8 : Int32) &&& 31)).toInt8.toInt32))) (.int (0 : Int32)) := Arv.set Ar267 q267 S267 N267 H267 G267 (fits_nar_byte _) W268 32 rfl (by simp only [List.length_set, own_putL, List.length_append, List.length_cons, List.length_nil, List.length_replicate]; decide)
    refine own_st (fun u_ k_ => st268 u_ k_) ?_
    show own_Go p e below _ (T268.setTop (mkF m 62 #[.val (.int q), .val (.long ha), .second, .val (.long hb1), .second, .val (.long hc1), .second, .val (.long hd1), .second, .val (.int c9), .val (.int n), .val (.ref b246), .unset, .unset, .unset, .unset, .unset] []))
    refine own_st (fun u_ k_ => XS.aload X268.here hx rfl (hb hby at_62) rfl rfl k_) ?_
    show own_Go p e below _ (T268.setTop (mkF m 64 #[.val (.int q), .val (.long ha), .second, .val (.long hb1), .second, .val (.long hc1), .second, .val (.long hd1), .second, .val (.int c9), .val (.int n), .val (.ref b246), .unset, .unset, .unset, .unset, .unset] [(.ref b246)]))
    refine own_st (fun u_ k_ => XS.bipush X268.here hx rfl (hb hby at_64) k_) ?_
    show own_Go p e below _ (T268.setTop (mkF m 66 #[.val (.int q), .val (.long ha), .second, .val (.long hb1), .second, .val (.long hc1), .second, .val (.long hd1), .second, .val (.int c9), .val (.int n), .val (.ref b246), .unset, .unset, .unset, .unset, .unset] [(.int (33 : Int32)), (.ref b246)]))
    refine own_st (fun u_ k_ => XS.iload X268.here hx rfl (hb hby at_66) rfl k_) ?_
    show own_Go p e below _ (T268.setTop (mkF m 68 #[.val (.int q), .val (.long ha), .second, .val (.long hb1), .second, .val (.long hc1), .second, .val (.long hd1), .second, .val (.int c9), .val (.int n), .val (.ref b246), .unset, .unset, .unset, .unset, .unset] [(.int c9), (.int (33 : Int32)), (.ref b246)]))
    refine own_st (fun u_ k_ => XS.bipush X268.here hx rfl (hb hby at_68) k_) ?_
    show own_Go p e below _ (T268.setTop (mkF m 70 #[.val (.int q), .val (.long ha), .second, .val (.long hb1), .second, .val (.long hc1), .second, .val (.long hd1), .second, .val (.int c9), .val (.int n), .val (.ref b246), .unset, .unset, .unset, .unset, .unset] [(.int (24 : Int32)), (.int c9), (.int (33 : Int32)), (.ref b246)]))
    refine own_st (fun u_ k_ => XS.iushr X268.here hx rfl (hb hby at_70) rfl k_) ?_
    show own_Go p e below _ (T268.setTop (mkF m 71 #[.val (.int q), .val (.long ha), .second, .val (.long hb1), .second, .val (.long hc1), .second, .val (.long hd1), .second, .val (.int c9), .val (.int n), .val (.ref b246), .unset, .unset, .unset, .unset, .unset] [(.int ((c9.toUInt32 >>> ((24 : Int32) &&& 31).toUInt32).toInt32)), (.int (33 : Int32)), (.ref b246)]))
    refine own_st (fun u_ k_ => XS.i2b X268.here hx rfl (hb hby at_71) rfl k_) ?_
    show own_Go p e below _ (T268.setTop (mkF m 72 #[.val (.int q), .val (.long ha), .second, .val (.long hb1), .second, .val (.long hc1), .second, .val (.long hd1), .second, .val (.int c9), .val (.int n), .val (.ref b246), .unset, .unset, .unset, .unset, .unset] [(.int (((c9.toUInt32 >>> ((24 : Int32) &&& 31).toUInt32).toInt32).toInt8.toInt32)), (.int (33 : Int32)), (.ref b246)]))
    obtain ⟨cl269, Ar269, q269, S269, N269, H269, G269⟩ := id V268
    have hi269 : ¬ ((33 : Int32) < 0 ∨ cl269.slots.size ≤ ((33 : Int32)).toNatClampNeg) := inb_of S269 ⟨by decide, own_lt37 hc247 (by decide)⟩
    obtain ⟨T270, h270, X270, e270, W270, st270⟩ := stB X268 hx hZ e268 Ar269 (j := (33 : Int32)) hi269 (g := (mkF m 72 #[.val (.int q), .val (.long ha), .second, .val (.long hb1), .second, .val (.long hc1), .second, .val (.long hd1), .second, .val (.int c9), .val (.int n), .val (.ref b246), .unset, .unset, .unset, .unset, .unset] [(.int (((c9.toUInt32 >>> ((24 : Int32) &&& 31).toUInt32).toInt32).toInt8.toInt32)), (.int (33 : Int32)), (.ref b246)])) rfl rfl (hb hby at_72)
    rw [own_bb] at W270
    have N270 := Fr.snoc X270 N268 g254
    have V270 : Arv Z h270 b246 k246 .byte n (List.set (List.set (own_put 24 (own_put 16 (own_put 8 (own_put 0 (List.replicate 64 (.int (0 : Int32))) (.int ((((ha.toUInt64 >>> ((56 : Int32) &&& 0x3f).toInt64.toUInt64).toInt64).toInt32).toInt8.toInt32)) (.int ((((ha.toUInt64 >>> ((48 : Int32) &&& 0x3f).toInt64.toUInt64).toInt64).toInt32).toInt8.toInt32)) (.int ((((ha.toUInt64 >>> ((40 : Int32) &&& 0x3f).toInt64.toUInt64).toInt64).toInt32).toInt8.toInt32)) (.int ((((ha.toUInt64 >>> ((32 : Int32) &&& 0x3f).toInt64.toUInt64).toInt64).toInt32).toInt8.toInt32)) (.int ((((ha.toUInt64 >>> ((24 : Int32) &&& 0x3f).toInt64.toUInt64).toInt64).toInt32).toInt8.toInt32)) (.int ((((ha.toUInt64 >>> ((16 : Int32) &&& 0x3f).toInt64.toUInt64).toInt64).toInt32).toInt8.toInt32)) (.int ((((ha.toUInt64 >>> ((8 : Int32) &&& 0x3f).toInt64.toUInt64).toInt64).toInt32).toInt8.toInt32)) (.int ((ha.toInt32).toInt8.toInt32))) (.int ((((hb1.toUInt64 >>> ((56 : Int32) &&& 0x3f).toInt64.toUInt64).toInt64).toInt32).toInt8.toInt32)) (.int ((((hb1.toUInt64 >>> ((48 : Int32) &&& 0x3f).toInt64.toUInt64).toInt64).toInt32).toInt8.toInt32)) (.int ((((hb1.toUInt64 >>> ((40 : Int32) &&& 0x3f).toInt64.toUInt64).toInt64).toInt32).toInt8.toInt32)) (.int ((((hb1.toUInt64 >>> ((32 : Int32) &&& 0x3f).toInt64.toUInt64).toInt64).toInt32).toInt8.toInt32)) (.int ((((hb1.toUInt64 >>> ((24 : Int32) &&& 0x3f).toInt64.toUInt64).toInt64).toInt32).toInt8.toInt32)) (.int ((((hb1.toUInt64 >>> ((16 : Int32) &&& 0x3f).toInt64.toUInt64).toInt64).toInt32).toInt8.toInt32)) (.int ((((hb1.toUInt64 >>> ((8 : Int32) &&& 0x3f).toInt64.toUInt64).toInt64).toInt32).toInt8.toInt32)) (.int ((hb1.toInt32).toInt8.toInt32))) (.int ((((hc1.toUInt64 >>> ((56 : Int32) &&& 0x3f).toInt64.toUInt64).toInt64).toInt32).toInt8.toInt32)) (.int ((((hc1.toUInt64 >>> ((48 : Int32) &&& 0x3f).toInt64.toUInt64).toInt64).toInt32).toInt8.toInt32)) (.int ((((hc1.toUInt64 >>> ((40 : Int32) &&& 0x3f).toInt64.toUInt64).toInt64).toInt32).toInt8.toInt32)) (.int ((((hc1.toUInt64 >>> ((32 : Int32) &&& 0x3f).toInt64.toUInt64).toInt64).toInt32).toInt8.toInt32)) (.int ((((hc1.toUInt64 >>> ((24 : Int32) &&& 0x3f).toInt64.toUInt64).toInt64).toInt32).toInt8.toInt32)) (.int ((((hc1.toUInt64 >>> ((16 : Int32) &&& 0x3f).toInt64.toUInt64).toInt64).toInt32).toInt8.toInt32)) (.int ((((hc1.toUInt64 >>> ((8 : Int32) &&& 0x3f).toInt64.toUInt64).toInt64).toInt32).toInt8.toInt32)) (.int ((hc1.toInt32).toInt8.toInt32))) (.int ((((hd1.toUInt64 >>> ((56 : Int32) &&& 0x3f).toInt64.toUInt64).toInt64).toInt32).toInt8.toInt32)) (.int ((((hd1.toUInt64 >>> ((48 : Int32) &&& 0x3f).toInt64.toUInt64).toInt64).toInt32).toInt8.toInt32)) (.int ((((hd1.toUInt64 >>> ((40 : Int32) &&& 0x3f).toInt64.toUInt64).toInt64).toInt32).toInt8.toInt32)) (.int ((((hd1.toUInt64 >>> ((32 : Int32) &&& 0x3f).toInt64.toUInt64).toInt64).toInt32).toInt8.toInt32)) (.int ((((hd1.toUInt64 >>> ((24 : Int32) &&& 0x3f).toInt64.toUInt64).toInt64).toInt32).toInt8.toInt32)) (.int ((((hd1.toUInt64 >>> ((16 : Int32) &&& 0x3f).toInt64.toUInt64).toInt64).toInt32).toInt8.toInt32)) (.int ((((hd1.toUInt64 >>> ((8 : Int32) &&& 0x3f).toInt64.toUInt64).toInt64).toInt32).toInt8.toInt32)) (.int ((hd1.toInt32).toInt8.toInt32))) 32 (.int ((q >>> ((8 : Int32) &&& 31)).toInt8.toInt32))) 33 (.int (((c9.toUInt32 >>> ((24 : Int32) &&& 31).toUInt32).toInt32).toInt8.toInt32))) (.int (0 : Int32)) := Arv.set Ar269 q269 S269 N269 H269 G269 (fits_nar_byte _) W270 33 rfl (by simp only [List.length_set, own_putL, List.length_append, List.length_cons, List.length_nil, List.length_replicate]; decide)
    refine own_st (fun u_ k_ => st270 u_ k_) ?_
    show own_Go p e below _ (T270.setTop (mkF m 73 #[.val (.int q), .val (.long ha), .second, .val (.long hb1), .second, .val (.long hc1), .second, .val (.long hd1), .second, .val (.int c9), .val (.int n), .val (.ref b246), .unset, .unset, .unset, .unset, .unset] []))
    refine own_st (fun u_ k_ => XS.aload X270.here hx rfl (hb hby at_73) rfl rfl k_) ?_
    show own_Go p e below _ (T270.setTop (mkF m 75 #[.val (.int q), .val (.long ha), .second, .val (.long hb1), .second, .val (.long hc1), .second, .val (.long hd1), .second, .val (.int c9), .val (.int n), .val (.ref b246), .unset, .unset, .unset, .unset, .unset] [(.ref b246)]))
    refine own_st (fun u_ k_ => XS.bipush X270.here hx rfl (hb hby at_75) k_) ?_
    show own_Go p e below _ (T270.setTop (mkF m 77 #[.val (.int q), .val (.long ha), .second, .val (.long hb1), .second, .val (.long hc1), .second, .val (.long hd1), .second, .val (.int c9), .val (.int n), .val (.ref b246), .unset, .unset, .unset, .unset, .unset] [(.int (34 : Int32)), (.ref b246)]))
    refine own_st (fun u_ k_ => XS.iload X270.here hx rfl (hb hby at_77) rfl k_) ?_
    show own_Go p e below _ (T270.setTop (mkF m 79 #[.val (.int q), .val (.long ha), .second, .val (.long hb1), .second, .val (.long hc1), .second, .val (.long hd1), .second, .val (.int c9), .val (.int n), .val (.ref b246), .unset, .unset, .unset, .unset, .unset] [(.int c9), (.int (34 : Int32)), (.ref b246)]))
    refine own_st (fun u_ k_ => XS.bipush X270.here hx rfl (hb hby at_79) k_) ?_
    show own_Go p e below _ (T270.setTop (mkF m 81 #[.val (.int q), .val (.long ha), .second, .val (.long hb1), .second, .val (.long hc1), .second, .val (.long hd1), .second, .val (.int c9), .val (.int n), .val (.ref b246), .unset, .unset, .unset, .unset, .unset] [(.int (16 : Int32)), (.int c9), (.int (34 : Int32)), (.ref b246)]))
    refine own_st (fun u_ k_ => XS.iushr X270.here hx rfl (hb hby at_81) rfl k_) ?_
    show own_Go p e below _ (T270.setTop (mkF m 82 #[.val (.int q), .val (.long ha), .second, .val (.long hb1), .second, .val (.long hc1), .second, .val (.long hd1), .second, .val (.int c9), .val (.int n), .val (.ref b246), .unset, .unset, .unset, .unset, .unset] [(.int ((c9.toUInt32 >>> ((16 : Int32) &&& 31).toUInt32).toInt32)), (.int (34 : Int32)), (.ref b246)]))
    refine own_st (fun u_ k_ => XS.i2b X270.here hx rfl (hb hby at_82) rfl k_) ?_
    show own_Go p e below _ (T270.setTop (mkF m 83 #[.val (.int q), .val (.long ha), .second, .val (.long hb1), .second, .val (.long hc1), .second, .val (.long hd1), .second, .val (.int c9), .val (.int n), .val (.ref b246), .unset, .unset, .unset, .unset, .unset] [(.int (((c9.toUInt32 >>> ((16 : Int32) &&& 31).toUInt32).toInt32).toInt8.toInt32)), (.int (34 : Int32)), (.ref b246)]))
    obtain ⟨cl271, Ar271, q271, S271, N271, H271, G271⟩ := id V270
    have hi271 : ¬ ((34 : Int32) < 0 ∨ cl271.slots.size ≤ ((34 : Int32)).toNatClampNeg) := inb_of S271 ⟨by decide, own_lt37 hc247 (by decide)⟩
    obtain ⟨T272, h272, X272, e272, W272, st272⟩ := stB X270 hx hZ e270 Ar271 (j := (34 : Int32)) hi271 (g := (mkF m 83 #[.val (.int q), .val (.long ha), .second, .val (.long hb1), .second, .val (.long hc1), .second, .val (.long hd1), .second, .val (.int c9), .val (.int n), .val (.ref b246), .unset, .unset, .unset, .unset, .unset] [(.int (((c9.toUInt32 >>> ((16 : Int32) &&& 31).toUInt32).toInt32).toInt8.toInt32)), (.int (34 : Int32)), (.ref b246)])) rfl rfl (hb hby at_83)
    rw [own_bb] at W272
    have N272 := Fr.snoc X272 N270 g254
    have V272 : Arv Z h272 b246 k246 .byte n (List.set (List.set (List.set (own_put 24 (own_put 16 (own_put 8 (own_put 0 (List.replicate 64 (.int (0 : Int32))) (.int ((((ha.toUInt64 >>> ((56 : Int32) &&& 0x3f).toInt64.toUInt64).toInt64).toInt32).toInt8.toInt32)) (.int ((((ha.toUInt64 >>> ((48 : Int32) &&& 0x3f).toInt64.toUInt64).toInt64).toInt32).toInt8.toInt32)) (.int ((((ha.toUInt64 >>> ((40 : Int32) &&& 0x3f).toInt64.toUInt64).toInt64).toInt32).toInt8.toInt32)) (.int ((((ha.toUInt64 >>> ((32 : Int32) &&& 0x3f).toInt64.toUInt64).toInt64).toInt32).toInt8.toInt32)) (.int ((((ha.toUInt64 >>> ((24 : Int32) &&& 0x3f).toInt64.toUInt64).toInt64).toInt32).toInt8.toInt32)) (.int ((((ha.toUInt64 >>> ((16 : Int32) &&& 0x3f).toInt64.toUInt64).toInt64).toInt32).toInt8.toInt32)) (.int ((((ha.toUInt64 >>> ((8 : Int32) &&& 0x3f).toInt64.toUInt64).toInt64).toInt32).toInt8.toInt32)) (.int ((ha.toInt32).toInt8.toInt32))) (.int ((((hb1.toUInt64 >>> ((56 : Int32) &&& 0x3f).toInt64.toUInt64).toInt64).toInt32).toInt8.toInt32)) (.int ((((hb1.toUInt64 >>> ((48 : Int32) &&& 0x3f).toInt64.toUInt64).toInt64).toInt32).toInt8.toInt32)) (.int ((((hb1.toUInt64 >>> ((40 : Int32) &&& 0x3f).toInt64.toUInt64).toInt64).toInt32).toInt8.toInt32)) (.int ((((hb1.toUInt64 >>> ((32 : Int32) &&& 0x3f).toInt64.toUInt64).toInt64).toInt32).toInt8.toInt32)) (.int ((((hb1.toUInt64 >>> ((24 : Int32) &&& 0x3f).toInt64.toUInt64).toInt64).toInt32).toInt8.toInt32)) (.int ((((hb1.toUInt64 >>> ((16 : Int32) &&& 0x3f).toInt64.toUInt64).toInt64).toInt32).toInt8.toInt32)) (.int ((((hb1.toUInt64 >>> ((8 : Int32) &&& 0x3f).toInt64.toUInt64).toInt64).toInt32).toInt8.toInt32)) (.int ((hb1.toInt32).toInt8.toInt32))) (.int ((((hc1.toUInt64 >>> ((56 : Int32) &&& 0x3f).toInt64.toUInt64).toInt64).toInt32).toInt8.toInt32)) (.int ((((hc1.toUInt64 >>> ((48 : Int32) &&& 0x3f).toInt64.toUInt64).toInt64).toInt32).toInt8.toInt32)) (.int ((((hc1.toUInt64 >>> ((40 : Int32) &&& 0x3f).toInt64.toUInt64).toInt64).toInt32).toInt8.toInt32)) (.int ((((hc1.toUInt64 >>> ((32 : Int32) &&& 0x3f).toInt64.toUInt64).toInt64).toInt32).toInt8.toInt32)) (.int ((((hc1.toUInt64 >>> ((24 : Int32) &&& 0x3f).toInt64.toUInt64).toInt64).toInt32).toInt8.toInt32)) (.int ((((hc1.toUInt64 >>> ((16 : Int32) &&& 0x3f).toInt64.toUInt64).toInt64).toInt32).toInt8.toInt32)) (.int ((((hc1.toUInt64 >>> ((8 : Int32) &&& 0x3f).toInt64.toUInt64).toInt64).toInt32).toInt8.toInt32)) (.int ((hc1.toInt32).toInt8.toInt32))) (.int ((((hd1.toUInt64 >>> ((56 : Int32) &&& 0x3f).toInt64.toUInt64).toInt64).toInt32).toInt8.toInt32)) (.int ((((hd1.toUInt64 >>> ((48 : Int32) &&& 0x3f).toInt64.toUInt64).toInt64).toInt32).toInt8.toInt32)) (.int ((((hd1.toUInt64 >>> ((40 : Int32) &&& 0x3f).toInt64.toUInt64).toInt64).toInt32).toInt8.toInt32)) (.int ((((hd1.toUInt64 >>> ((32 : Int32) &&& 0x3f).toInt64.toUInt64).toInt64).toInt32).toInt8.toInt32)) (.int ((((hd1.toUInt64 >>> ((24 : Int32) &&& 0x3f).toInt64.toUInt64).toInt64).toInt32).toInt8.toInt32)) (.int ((((hd1.toUInt64 >>> ((16 : Int32) &&& 0x3f).toInt64.toUInt64).toInt64).toInt32).toInt8.toInt32)) (.int ((((hd1.toUInt64 >>> ((8 : Int32) &&& 0x3f).toInt64.toUInt64).toInt64).toInt32).toInt8.toInt32)) (.int ((hd1.toInt32).toInt8.toInt32))) 32 (.int ((q >>> ((8 : Int32) &&& 31)).toInt8.toInt32))) 33 (.int (((c9.toUInt32 >>> ((24 : Int32) &&& 31).toUInt32).toInt32).toInt8.toInt32))) 34 (.int (((c9.toUInt32 >>> ((16 : Int32) &&& 31).toUInt32).toInt32).toInt8.toInt32))) (.int (0 : Int32)) := Arv.set Ar271 q271 S271 N271 H271 G271 (fits_nar_byte _) W272 34 rfl (by simp only [List.length_set, own_putL, List.length_append, List.length_cons, List.length_nil, List.length_replicate]; decide)
    refine own_st (fun u_ k_ => st272 u_ k_) ?_
    show own_Go p e below _ (T272.setTop (mkF m 84 #[.val (.int q), .val (.long ha), .second, .val (.long hb1), .second, .val (.long hc1), .second, .val (.long hd1), .second, .val (.int c9), .val (.int n), .val (.ref b246), .unset, .unset, .unset, .unset, .unset] []))
    refine own_st (fun u_ k_ => XS.aload X272.here hx rfl (hb hby at_84) rfl rfl k_) ?_
    show own_Go p e below _ (T272.setTop (mkF m 86 #[.val (.int q), .val (.long ha), .second, .val (.long hb1), .second, .val (.long hc1), .second, .val (.long hd1), .second, .val (.int c9), .val (.int n), .val (.ref b246), .unset, .unset, .unset, .unset, .unset] [(.ref b246)]))
    refine own_st (fun u_ k_ => XS.bipush X272.here hx rfl (hb hby at_86) k_) ?_
    show own_Go p e below _ (T272.setTop (mkF m 88 #[.val (.int q), .val (.long ha), .second, .val (.long hb1), .second, .val (.long hc1), .second, .val (.long hd1), .second, .val (.int c9), .val (.int n), .val (.ref b246), .unset, .unset, .unset, .unset, .unset] [(.int (35 : Int32)), (.ref b246)]))
    refine own_st (fun u_ k_ => XS.iload X272.here hx rfl (hb hby at_88) rfl k_) ?_
    show own_Go p e below _ (T272.setTop (mkF m 90 #[.val (.int q), .val (.long ha), .second, .val (.long hb1), .second, .val (.long hc1), .second, .val (.long hd1), .second, .val (.int c9), .val (.int n), .val (.ref b246), .unset, .unset, .unset, .unset, .unset] [(.int c9), (.int (35 : Int32)), (.ref b246)]))
    refine own_st (fun u_ k_ => XS.bipush X272.here hx rfl (hb hby at_90) k_) ?_
    show own_Go p e below _ (T272.setTop (mkF m 92 #[.val (.int q), .val (.long ha), .second, .val (.long hb1), .second, .val (.long hc1), .second, .val (.long hd1), .second, .val (.int c9), .val (.int n), .val (.ref b246), .unset, .unset, .unset, .unset, .unset] [(.int (8 : Int32)), (.int c9), (.int (35 : Int32)), (.ref b246)]))
    refine own_st (fun u_ k_ => XS.iushr X272.here hx rfl (hb hby at_92) rfl k_) ?_
    show own_Go p e below _ (T272.setTop (mkF m 93 #[.val (.int q), .val (.long ha), .second, .val (.long hb1), .second, .val (.long hc1), .second, .val (.long hd1), .second, .val (.int c9), .val (.int n), .val (.ref b246), .unset, .unset, .unset, .unset, .unset] [(.int ((c9.toUInt32 >>> ((8 : Int32) &&& 31).toUInt32).toInt32)), (.int (35 : Int32)), (.ref b246)]))
    refine own_st (fun u_ k_ => XS.i2b X272.here hx rfl (hb hby at_93) rfl k_) ?_
    show own_Go p e below _ (T272.setTop (mkF m 94 #[.val (.int q), .val (.long ha), .second, .val (.long hb1), .second, .val (.long hc1), .second, .val (.long hd1), .second, .val (.int c9), .val (.int n), .val (.ref b246), .unset, .unset, .unset, .unset, .unset] [(.int (((c9.toUInt32 >>> ((8 : Int32) &&& 31).toUInt32).toInt32).toInt8.toInt32)), (.int (35 : Int32)), (.ref b246)]))
    obtain ⟨cl273, Ar273, q273, S273, N273, H273, G273⟩ := id V272
    have hi273 : ¬ ((35 : Int32) < 0 ∨ cl273.slots.size ≤ ((35 : Int32)).toNatClampNeg) := inb_of S273 ⟨by decide, own_lt37 hc247 (by decide)⟩
    obtain ⟨T274, h274, X274, e274, W274, st274⟩ := stB X272 hx hZ e272 Ar273 (j := (35 : Int32)) hi273 (g := (mkF m 94 #[.val (.int q), .val (.long ha), .second, .val (.long hb1), .second, .val (.long hc1), .second, .val (.long hd1), .second, .val (.int c9), .val (.int n), .val (.ref b246), .unset, .unset, .unset, .unset, .unset] [(.int (((c9.toUInt32 >>> ((8 : Int32) &&& 31).toUInt32).toInt32).toInt8.toInt32)), (.int (35 : Int32)), (.ref b246)])) rfl rfl (hb hby at_94)
    rw [own_bb] at W274
    have N274 := Fr.snoc X274 N272 g254
    have V274 : Arv Z h274 b246 k246 .byte n (List.set (List.set (List.set (List.set (own_put 24 (own_put 16 (own_put 8 (own_put 0 (List.replicate 64 (.int (0 : Int32))) (.int ((((ha.toUInt64 >>> ((56 : Int32) &&& 0x3f).toInt64.toUInt64).toInt64).toInt32).toInt8.toInt32)) (.int ((((ha.toUInt64 >>> ((48 : Int32) &&& 0x3f).toInt64.toUInt64).toInt64).toInt32).toInt8.toInt32)) (.int ((((ha.toUInt64 >>> ((40 : Int32) &&& 0x3f).toInt64.toUInt64).toInt64).toInt32).toInt8.toInt32)) (.int ((((ha.toUInt64 >>> ((32 : Int32) &&& 0x3f).toInt64.toUInt64).toInt64).toInt32).toInt8.toInt32)) (.int ((((ha.toUInt64 >>> ((24 : Int32) &&& 0x3f).toInt64.toUInt64).toInt64).toInt32).toInt8.toInt32)) (.int ((((ha.toUInt64 >>> ((16 : Int32) &&& 0x3f).toInt64.toUInt64).toInt64).toInt32).toInt8.toInt32)) (.int ((((ha.toUInt64 >>> ((8 : Int32) &&& 0x3f).toInt64.toUInt64).toInt64).toInt32).toInt8.toInt32)) (.int ((ha.toInt32).toInt8.toInt32))) (.int ((((hb1.toUInt64 >>> ((56 : Int32) &&& 0x3f).toInt64.toUInt64).toInt64).toInt32).toInt8.toInt32)) (.int ((((hb1.toUInt64 >>> ((48 : Int32) &&& 0x3f).toInt64.toUInt64).toInt64).toInt32).toInt8.toInt32)) (.int ((((hb1.toUInt64 >>> ((40 : Int32) &&& 0x3f).toInt64.toUInt64).toInt64).toInt32).toInt8.toInt32)) (.int ((((hb1.toUInt64 >>> ((32 : Int32) &&& 0x3f).toInt64.toUInt64).toInt64).toInt32).toInt8.toInt32)) (.int ((((hb1.toUInt64 >>> ((24 : Int32) &&& 0x3f).toInt64.toUInt64).toInt64).toInt32).toInt8.toInt32)) (.int ((((hb1.toUInt64 >>> ((16 : Int32) &&& 0x3f).toInt64.toUInt64).toInt64).toInt32).toInt8.toInt32)) (.int ((((hb1.toUInt64 >>> ((8 : Int32) &&& 0x3f).toInt64.toUInt64).toInt64).toInt32).toInt8.toInt32)) (.int ((hb1.toInt32).toInt8.toInt32))) (.int ((((hc1.toUInt64 >>> ((56 : Int32) &&& 0x3f).toInt64.toUInt64).toInt64).toInt32).toInt8.toInt32)) (.int ((((hc1.toUInt64 >>> ((48 : Int32) &&& 0x3f).toInt64.toUInt64).toInt64).toInt32).toInt8.toInt32)) (.int ((((hc1.toUInt64 >>> ((40 : Int32) &&& 0x3f).toInt64.toUInt64).toInt64).toInt32).toInt8.toInt32)) (.int ((((hc1.toUInt64 >>> ((32 : Int32) &&& 0x3f).toInt64.toUInt64).toInt64).toInt32).toInt8.toInt32)) (.int ((((hc1.toUInt64 >>> ((24 : Int32) &&& 0x3f).toInt64.toUInt64).toInt64).toInt32).toInt8.toInt32)) (.int ((((hc1.toUInt64 >>> ((16 : Int32) &&& 0x3f).toInt64.toUInt64).toInt64).toInt32).toInt8.toInt32)) (.int ((((hc1.toUInt64 >>> ((8 : Int32) &&& 0x3f).toInt64.toUInt64).toInt64).toInt32).toInt8.toInt32)) (.int ((hc1.toInt32).toInt8.toInt32))) (.int ((((hd1.toUInt64 >>> ((56 : Int32) &&& 0x3f).toInt64.toUInt64).toInt64).toInt32).toInt8.toInt32)) (.int ((((hd1.toUInt64 >>> ((48 : Int32) &&& 0x3f).toInt64.toUInt64).toInt64).toInt32).toInt8.toInt32)) (.int ((((hd1.toUInt64 >>> ((40 : Int32) &&& 0x3f).toInt64.toUInt64).toInt64).toInt32).toInt8.toInt32)) (.int ((((hd1.toUInt64 >>> ((32 : Int32) &&& 0x3f).toInt64.toUInt64).toInt64).toInt32).toInt8.toInt32)) (.int ((((hd1.toUInt64 >>> ((24 : Int32) &&& 0x3f).toInt64.toUInt64).toInt64).toInt32).toInt8.toInt32)) (.int ((((hd1.toUInt64 >>> ((16 : Int32) &&& 0x3f).toInt64.toUInt64).toInt64).toInt32).toInt8.toInt32)) (.int ((((hd1.toUInt64 >>> ((8 : Int32) &&& 0x3f).toInt64.toUInt64).toInt64).toInt32).toInt8.toInt32)) (.int ((hd1.toInt32).toInt8.toInt32))) 32 (.int ((q >>> ((8 : Int32) &&& 31)).toInt8.toInt32))) 33 (.int (((c9.toUInt32 >>> ((24 : Int32) &&& 31).toUInt32).toInt32).toInt8.toInt32))) 34 (.int (((c9.toUInt32 >>> ((16 : Int32) &&& 31).toUInt32).toInt32).toInt8.toInt32))) 35 (.int (((c9.toUInt32 >>> ((8 : Int32) &&& 31).toUInt32).toInt32).toInt8.toInt32))) (.int (0 : Int32)) := Arv.set Ar273 q273 S273 N273 H273 G273 (fits_nar_byte _) W274 35 rfl (by simp only [List.length_set, own_putL, List.length_append, List.length_cons, List.length_nil, List.length_replicate]; decide)
    refine own_st (fun u_ k_ => st274 u_ k_) ?_
    show own_Go p e below _ (T274.setTop (mkF m 95 #[.val (.int q), .val (.long ha), .second, .val (.long hb1), .second, .val (.long hc1), .second, .val (.long hd1), .second, .val (.int c9), .val (.int n), .val (.ref b246), .unset, .unset, .unset, .unset, .unset] []))
    refine own_st (fun u_ k_ => XS.aload X274.here hx rfl (hb hby at_95) rfl rfl k_) ?_
    show own_Go p e below _ (T274.setTop (mkF m 97 #[.val (.int q), .val (.long ha), .second, .val (.long hb1), .second, .val (.long hc1), .second, .val (.long hd1), .second, .val (.int c9), .val (.int n), .val (.ref b246), .unset, .unset, .unset, .unset, .unset] [(.ref b246)]))
    refine own_st (fun u_ k_ => XS.bipush X274.here hx rfl (hb hby at_97) k_) ?_
    show own_Go p e below _ (T274.setTop (mkF m 99 #[.val (.int q), .val (.long ha), .second, .val (.long hb1), .second, .val (.long hc1), .second, .val (.long hd1), .second, .val (.int c9), .val (.int n), .val (.ref b246), .unset, .unset, .unset, .unset, .unset] [(.int (36 : Int32)), (.ref b246)]))
    refine own_st (fun u_ k_ => XS.iload X274.here hx rfl (hb hby at_99) rfl k_) ?_
    show own_Go p e below _ (T274.setTop (mkF m 101 #[.val (.int q), .val (.long ha), .second, .val (.long hb1), .second, .val (.long hc1), .second, .val (.long hd1), .second, .val (.int c9), .val (.int n), .val (.ref b246), .unset, .unset, .unset, .unset, .unset] [(.int c9), (.int (36 : Int32)), (.ref b246)]))
    refine own_st (fun u_ k_ => XS.i2b X274.here hx rfl (hb hby at_101) rfl k_) ?_
    show own_Go p e below _ (T274.setTop (mkF m 102 #[.val (.int q), .val (.long ha), .second, .val (.long hb1), .second, .val (.long hc1), .second, .val (.long hd1), .second, .val (.int c9), .val (.int n), .val (.ref b246), .unset, .unset, .unset, .unset, .unset] [(.int (c9.toInt8.toInt32)), (.int (36 : Int32)), (.ref b246)]))
    obtain ⟨cl275, Ar275, q275, S275, N275, H275, G275⟩ := id V274
    have hi275 : ¬ ((36 : Int32) < 0 ∨ cl275.slots.size ≤ ((36 : Int32)).toNatClampNeg) := inb_of S275 ⟨by decide, own_lt37 hc247 (by decide)⟩
    obtain ⟨T276, h276, X276, e276, W276, st276⟩ := stB X274 hx hZ e274 Ar275 (j := (36 : Int32)) hi275 (g := (mkF m 102 #[.val (.int q), .val (.long ha), .second, .val (.long hb1), .second, .val (.long hc1), .second, .val (.long hd1), .second, .val (.int c9), .val (.int n), .val (.ref b246), .unset, .unset, .unset, .unset, .unset] [(.int (c9.toInt8.toInt32)), (.int (36 : Int32)), (.ref b246)])) rfl rfl (hb hby at_102)
    rw [own_bb] at W276
    have N276 := Fr.snoc X276 N274 g254
    have V276 : Arv Z h276 b246 k246 .byte n (List.set (List.set (List.set (List.set (List.set (own_put 24 (own_put 16 (own_put 8 (own_put 0 (List.replicate 64 (.int (0 : Int32))) (.int ((((ha.toUInt64 >>> ((56 : Int32) &&& 0x3f).toInt64.toUInt64).toInt64).toInt32).toInt8.toInt32)) (.int ((((ha.toUInt64 >>> ((48 : Int32) &&& 0x3f).toInt64.toUInt64).toInt64).toInt32).toInt8.toInt32)) (.int ((((ha.toUInt64 >>> ((40 : Int32) &&& 0x3f).toInt64.toUInt64).toInt64).toInt32).toInt8.toInt32)) (.int ((((ha.toUInt64 >>> ((32 : Int32) &&& 0x3f).toInt64.toUInt64).toInt64).toInt32).toInt8.toInt32)) (.int ((((ha.toUInt64 >>> ((24 : Int32) &&& 0x3f).toInt64.toUInt64).toInt64).toInt32).toInt8.toInt32)) (.int ((((ha.toUInt64 >>> ((16 : Int32) &&& 0x3f).toInt64.toUInt64).toInt64).toInt32).toInt8.toInt32)) (.int ((((ha.toUInt64 >>> ((8 : Int32) &&& 0x3f).toInt64.toUInt64).toInt64).toInt32).toInt8.toInt32)) (.int ((ha.toInt32).toInt8.toInt32))) (.int ((((hb1.toUInt64 >>> ((56 : Int32) &&& 0x3f).toInt64.toUInt64).toInt64).toInt32).toInt8.toInt32)) (.int ((((hb1.toUInt64 >>> ((48 : Int32) &&& 0x3f).toInt64.toUInt64).toInt64).toInt32).toInt8.toInt32)) (.int ((((hb1.toUInt64 >>> ((40 : Int32) &&& 0x3f).toInt64.toUInt64).toInt64).toInt32).toInt8.toInt32)) (.int ((((hb1.toUInt64 >>> ((32 : Int32) &&& 0x3f).toInt64.toUInt64).toInt64).toInt32).toInt8.toInt32)) (.int ((((hb1.toUInt64 >>> ((24 : Int32) &&& 0x3f).toInt64.toUInt64).toInt64).toInt32).toInt8.toInt32)) (.int ((((hb1.toUInt64 >>> ((16 : Int32) &&& 0x3f).toInt64.toUInt64).toInt64).toInt32).toInt8.toInt32)) (.int ((((hb1.toUInt64 >>> ((8 : Int32) &&& 0x3f).toInt64.toUInt64).toInt64).toInt32).toInt8.toInt32)) (.int ((hb1.toInt32).toInt8.toInt32))) (.int ((((hc1.toUInt64 >>> ((56 : Int32) &&& 0x3f).toInt64.toUInt64).toInt64).toInt32).toInt8.toInt32)) (.int ((((hc1.toUInt64 >>> ((48 : Int32) &&& 0x3f).toInt64.toUInt64).toInt64).toInt32).toInt8.toInt32)) (.int ((((hc1.toUInt64 >>> ((40 : Int32) &&& 0x3f).toInt64.toUInt64).toInt64).toInt32).toInt8.toInt32)) (.int ((((hc1.toUInt64 >>> ((32 : Int32) &&& 0x3f).toInt64.toUInt64).toInt64).toInt32).toInt8.toInt32)) (.int ((((hc1.toUInt64 >>> ((24 : Int32) &&& 0x3f).toInt64.toUInt64).toInt64).toInt32).toInt8.toInt32)) (.int ((((hc1.toUInt64 >>> ((16 : Int32) &&& 0x3f).toInt64.toUInt64).toInt64).toInt32).toInt8.toInt32)) (.int ((((hc1.toUInt64 >>> ((8 : Int32) &&& 0x3f).toInt64.toUInt64).toInt64).toInt32).toInt8.toInt32)) (.int ((hc1.toInt32).toInt8.toInt32))) (.int ((((hd1.toUInt64 >>> ((56 : Int32) &&& 0x3f).toInt64.toUInt64).toInt64).toInt32).toInt8.toInt32)) (.int ((((hd1.toUInt64 >>> ((48 : Int32) &&& 0x3f).toInt64.toUInt64).toInt64).toInt32).toInt8.toInt32)) (.int ((((hd1.toUInt64 >>> ((40 : Int32) &&& 0x3f).toInt64.toUInt64).toInt64).toInt32).toInt8.toInt32)) (.int ((((hd1.toUInt64 >>> ((32 : Int32) &&& 0x3f).toInt64.toUInt64).toInt64).toInt32).toInt8.toInt32)) (.int ((((hd1.toUInt64 >>> ((24 : Int32) &&& 0x3f).toInt64.toUInt64).toInt64).toInt32).toInt8.toInt32)) (.int ((((hd1.toUInt64 >>> ((16 : Int32) &&& 0x3f).toInt64.toUInt64).toInt64).toInt32).toInt8.toInt32)) (.int ((((hd1.toUInt64 >>> ((8 : Int32) &&& 0x3f).toInt64.toUInt64).toInt64).toInt32).toInt8.toInt32)) (.int ((hd1.toInt32).toInt8.toInt32))) 32 (.int ((q >>> ((8 : Int32) &&& 31)).toInt8.toInt32))) 33 (.int (((c9.toUInt32 >>> ((24 : Int32) &&& 31).toUInt32).toInt32).toInt8.toInt32))) 34 (.int (((c9.toUInt32 >>> ((16 : Int32) &&& 31).toUInt32).toInt32).toInt8.toInt32))) 35 (.int (((c9.toUInt32 >>> ((8 : Int32) &&& 31).toUInt32).toInt32).toInt8.toInt32))) 36 (.int (c9.toInt8.toInt32))) (.int (0 : Int32)) := Arv.set Ar275 q275 S275 N275 H275 G275 (fits_nar_byte _) W276 36 rfl (by simp only [List.length_set, own_putL, List.length_append, List.length_cons, List.length_nil, List.length_replicate]; decide)
    refine own_st (fun u_ k_ => st276 u_ k_) ?_
    show own_Go p e below _ (T276.setTop (mkF m 103 #[.val (.int q), .val (.long ha), .second, .val (.long hb1), .second, .val (.long hc1), .second, .val (.long hd1), .second, .val (.int c9), .val (.int n), .val (.ref b246), .unset, .unset, .unset, .unset, .unset] []))
    have V277 := V276
    rw [own_all] at V277
    refine own_st (fun u_ k_ => XS.iload X276.here hx rfl (hb hby at_103) rfl k_) ?_
    show own_Go p e below _ (T276.setTop (mkF m 105 #[.val (.int q), .val (.long ha), .second, .val (.long hb1), .second, .val (.long hc1), .second, .val (.long hd1), .second, .val (.int c9), .val (.int n), .val (.ref b246), .unset, .unset, .unset, .unset, .unset] [(.int n)]))
    refine own_st (fun u_ k_ => XS.bipush X276.here hx rfl (hb hby at_105) k_) ?_
    show own_Go p e below _ (T276.setTop (mkF m 107 #[.val (.int q), .val (.long ha), .second, .val (.long hb1), .second, .val (.long hc1), .second, .val (.long hd1), .second, .val (.int c9), .val (.int n), .val (.ref b246), .unset, .unset, .unset, .unset, .unset] [(.int (37 : Int32)), (.int n)]))
    by_cases hc278 : (37 : Int32) < n
    · refine own_st (fun u_ k_ => XS.icmpNo X276.here hx rfl (hb hby at_107) rfl (XT.ii_le_f hc278) k_) ?_
      show own_Go p e below _ (T276.setTop (mkF m 110 #[.val (.int q), .val (.long ha), .second, .val (.long hb1), .second, .val (.long hc1), .second, .val (.long hd1), .second, .val (.int c9), .val (.int n), .val (.ref b246), .unset, .unset, .unset, .unset, .unset] []))
      refine own_st (fun u_ k_ => XS.aload X276.here hx rfl (hb hby at_110) rfl rfl k_) ?_
      show own_Go p e below _ (T276.setTop (mkF m 112 #[.val (.int q), .val (.long ha), .second, .val (.long hb1), .second, .val (.long hc1), .second, .val (.long hd1), .second, .val (.int c9), .val (.int n), .val (.ref b246), .unset, .unset, .unset, .unset, .unset] [(.ref b246)]))
      refine own_st (fun u_ k_ => XS.iload X276.here hx rfl (hb hby at_112) rfl k_) ?_
      show own_Go p e below _ (T276.setTop (mkF m 114 #[.val (.int q), .val (.long ha), .second, .val (.long hb1), .second, .val (.long hc1), .second, .val (.long hd1), .second, .val (.int c9), .val (.int n), .val (.ref b246), .unset, .unset, .unset, .unset, .unset] [(.int n), (.ref b246)]))
      refine own_st (fun u_ k_ => XS.iconst X276.here hx rfl (hb hby at_114) k_) ?_
      show own_Go p e below _ (T276.setTop (mkF m 115 #[.val (.int q), .val (.long ha), .second, .val (.long hb1), .second, .val (.long hc1), .second, .val (.long hd1), .second, .val (.int c9), .val (.int n), .val (.ref b246), .unset, .unset, .unset, .unset, .unset] [(.int (1 : Int32)), (.int n), (.ref b246)]))
      refine own_st (fun u_ k_ => XS.isub X276.here hx rfl (hb hby at_115) rfl k_) ?_
      show own_Go p e below _ (T276.setTop (mkF m 116 #[.val (.int q), .val (.long ha), .second, .val (.long hb1), .second, .val (.long hc1), .second, .val (.long hd1), .second, .val (.int c9), .val (.int n), .val (.ref b246), .unset, .unset, .unset, .unset, .unset] [(.int (n - (1 : Int32))), (.ref b246)]))
      refine own_st (fun u_ k_ => XS.iloadN X276.here hx rfl (hb hby at_116) rfl k_) ?_
      show own_Go p e below _ (T276.setTop (mkF m 117 #[.val (.int q), .val (.long ha), .second, .val (.long hb1), .second, .val (.long hc1), .second, .val (.long hd1), .second, .val (.int c9), .val (.int n), .val (.ref b246), .unset, .unset, .unset, .unset, .unset] [(.int q), (.int (n - (1 : Int32))), (.ref b246)]))
      refine own_st (fun u_ k_ => XS.bipush X276.here hx rfl (hb hby at_117) k_) ?_
      show own_Go p e below _ (T276.setTop (mkF m 119 #[.val (.int q), .val (.long ha), .second, .val (.long hb1), .second, .val (.long hc1), .second, .val (.long hd1), .second, .val (.int c9), .val (.int n), .val (.ref b246), .unset, .unset, .unset, .unset, .unset] [(.int (16 : Int32)), (.int q), (.int (n - (1 : Int32))), (.ref b246)]))
      refine own_st (fun u_ k_ => XS.ishr X276.here hx rfl (hb hby at_119) rfl k_) ?_
      show own_Go p e below _ (T276.setTop (mkF m 120 #[.val (.int q), .val (.long ha), .second, .val (.long hb1), .second, .val (.long hc1), .second, .val (.long hd1), .second, .val (.int c9), .val (.int n), .val (.ref b246), .unset, .unset, .unset, .unset, .unset] [(.int (q >>> ((16 : Int32) &&& 31))), (.int (n - (1 : Int32))), (.ref b246)]))
      refine own_st (fun u_ k_ => XS.i2b X276.here hx rfl (hb hby at_120) rfl k_) ?_
      show own_Go p e below _ (T276.setTop (mkF m 121 #[.val (.int q), .val (.long ha), .second, .val (.long hb1), .second, .val (.long hc1), .second, .val (.long hd1), .second, .val (.int c9), .val (.int n), .val (.ref b246), .unset, .unset, .unset, .unset, .unset] [(.int ((q >>> ((16 : Int32) &&& 31)).toInt8.toInt32)), (.int (n - (1 : Int32))), (.ref b246)]))
      obtain ⟨cl279, Ar279, q279, S279, N279, H279, G279⟩ := id V277
      have hi279 : ¬ ((n - (1 : Int32)) < 0 ∨ cl279.slots.size ≤ ((n - (1 : Int32))).toNatClampNeg) := own_inb hc278 hn63 S279
      obtain ⟨T280, h280, X280, e280, W280, st280⟩ := stB X276 hx hZ e276 Ar279 (j := (n - (1 : Int32))) hi279 (g := (mkF m 121 #[.val (.int q), .val (.long ha), .second, .val (.long hb1), .second, .val (.long hc1), .second, .val (.long hd1), .second, .val (.int c9), .val (.int n), .val (.ref b246), .unset, .unset, .unset, .unset, .unset] [(.int ((q >>> ((16 : Int32) &&& 31)).toInt8.toInt32)), (.int (n - (1 : Int32))), (.ref b246)])) rfl rfl (hb hby at_121)
      rw [own_bb] at W280
      have N280 := Fr.snoc X280 N276 g254
      have Va280 := Arv.set Ar279 q279 S279 N279 H279 G279 (fits_nar_byte _) W280 _ rfl (own_set1 hc278 hn63 rfl)
      obtain ⟨tl, htl⟩ := own_tail (L := [(.int ((((ha.toUInt64 >>> ((56 : Int32) &&& 0x3f).toInt64.toUInt64).toInt64).toInt32).toInt8.toInt32)), (.int ((((ha.toUInt64 >>> ((48 : Int32) &&& 0x3f).toInt64.toUInt64).toInt64).toInt32).toInt8.toInt32)), (.int ((((ha.toUInt64 >>> ((40 : Int32) &&& 0x3f).toInt64.toUInt64).toInt64).toInt32).toInt8.toInt32)), (.int ((((ha.toUInt64 >>> ((32 : Int32) &&& 0x3f).toInt64.toUInt64).toInt64).toInt32).toInt8.toInt32)), (.int ((((ha.toUInt64 >>> ((24 : Int32) &&& 0x3f).toInt64.toUInt64).toInt64).toInt32).toInt8.toInt32)), (.int ((((ha.toUInt64 >>> ((16 : Int32) &&& 0x3f).toInt64.toUInt64).toInt64).toInt32).toInt8.toInt32)), (.int ((((ha.toUInt64 >>> ((8 : Int32) &&& 0x3f).toInt64.toUInt64).toInt64).toInt32).toInt8.toInt32)), (.int ((ha.toInt32).toInt8.toInt32)), (.int ((((hb1.toUInt64 >>> ((56 : Int32) &&& 0x3f).toInt64.toUInt64).toInt64).toInt32).toInt8.toInt32)), (.int ((((hb1.toUInt64 >>> ((48 : Int32) &&& 0x3f).toInt64.toUInt64).toInt64).toInt32).toInt8.toInt32)), (.int ((((hb1.toUInt64 >>> ((40 : Int32) &&& 0x3f).toInt64.toUInt64).toInt64).toInt32).toInt8.toInt32)), (.int ((((hb1.toUInt64 >>> ((32 : Int32) &&& 0x3f).toInt64.toUInt64).toInt64).toInt32).toInt8.toInt32)), (.int ((((hb1.toUInt64 >>> ((24 : Int32) &&& 0x3f).toInt64.toUInt64).toInt64).toInt32).toInt8.toInt32)), (.int ((((hb1.toUInt64 >>> ((16 : Int32) &&& 0x3f).toInt64.toUInt64).toInt64).toInt32).toInt8.toInt32)), (.int ((((hb1.toUInt64 >>> ((8 : Int32) &&& 0x3f).toInt64.toUInt64).toInt64).toInt32).toInt8.toInt32)), (.int ((hb1.toInt32).toInt8.toInt32)), (.int ((((hc1.toUInt64 >>> ((56 : Int32) &&& 0x3f).toInt64.toUInt64).toInt64).toInt32).toInt8.toInt32)), (.int ((((hc1.toUInt64 >>> ((48 : Int32) &&& 0x3f).toInt64.toUInt64).toInt64).toInt32).toInt8.toInt32)), (.int ((((hc1.toUInt64 >>> ((40 : Int32) &&& 0x3f).toInt64.toUInt64).toInt64).toInt32).toInt8.toInt32)), (.int ((((hc1.toUInt64 >>> ((32 : Int32) &&& 0x3f).toInt64.toUInt64).toInt64).toInt32).toInt8.toInt32)), (.int ((((hc1.toUInt64 >>> ((24 : Int32) &&& 0x3f).toInt64.toUInt64).toInt64).toInt32).toInt8.toInt32)), (.int ((((hc1.toUInt64 >>> ((16 : Int32) &&& 0x3f).toInt64.toUInt64).toInt64).toInt32).toInt8.toInt32)), (.int ((((hc1.toUInt64 >>> ((8 : Int32) &&& 0x3f).toInt64.toUInt64).toInt64).toInt32).toInt8.toInt32)), (.int ((hc1.toInt32).toInt8.toInt32)), (.int ((((hd1.toUInt64 >>> ((56 : Int32) &&& 0x3f).toInt64.toUInt64).toInt64).toInt32).toInt8.toInt32)), (.int ((((hd1.toUInt64 >>> ((48 : Int32) &&& 0x3f).toInt64.toUInt64).toInt64).toInt32).toInt8.toInt32)), (.int ((((hd1.toUInt64 >>> ((40 : Int32) &&& 0x3f).toInt64.toUInt64).toInt64).toInt32).toInt8.toInt32)), (.int ((((hd1.toUInt64 >>> ((32 : Int32) &&& 0x3f).toInt64.toUInt64).toInt64).toInt32).toInt8.toInt32)), (.int ((((hd1.toUInt64 >>> ((24 : Int32) &&& 0x3f).toInt64.toUInt64).toInt64).toInt32).toInt8.toInt32)), (.int ((((hd1.toUInt64 >>> ((16 : Int32) &&& 0x3f).toInt64.toUInt64).toInt64).toInt32).toInt8.toInt32)), (.int ((((hd1.toUInt64 >>> ((8 : Int32) &&& 0x3f).toInt64.toUInt64).toInt64).toInt32).toInt8.toInt32)), (.int ((hd1.toInt32).toInt8.toInt32)), (.int ((q >>> ((8 : Int32) &&& 31)).toInt8.toInt32)), (.int (((c9.toUInt32 >>> ((24 : Int32) &&& 31).toUInt32).toInt32).toInt8.toInt32)), (.int (((c9.toUInt32 >>> ((16 : Int32) &&& 31).toUInt32).toInt32).toInt8.toInt32)), (.int (((c9.toUInt32 >>> ((8 : Int32) &&& 31).toUInt32).toInt32).toInt8.toInt32)), (.int (c9.toInt8.toInt32))]) rfl (own_ge37 hc278) (List.replicate 27 (.int (0 : Int32))) (.int ((q >>> ((16 : Int32) &&& 31)).toInt8.toInt32))
      rw [htl] at Va280
      have V280 : Arv Z h280 b246 k246 .byte n ([(.int ((((ha.toUInt64 >>> ((56 : Int32) &&& 0x3f).toInt64.toUInt64).toInt64).toInt32).toInt8.toInt32)), (.int ((((ha.toUInt64 >>> ((48 : Int32) &&& 0x3f).toInt64.toUInt64).toInt64).toInt32).toInt8.toInt32)), (.int ((((ha.toUInt64 >>> ((40 : Int32) &&& 0x3f).toInt64.toUInt64).toInt64).toInt32).toInt8.toInt32)), (.int ((((ha.toUInt64 >>> ((32 : Int32) &&& 0x3f).toInt64.toUInt64).toInt64).toInt32).toInt8.toInt32)), (.int ((((ha.toUInt64 >>> ((24 : Int32) &&& 0x3f).toInt64.toUInt64).toInt64).toInt32).toInt8.toInt32)), (.int ((((ha.toUInt64 >>> ((16 : Int32) &&& 0x3f).toInt64.toUInt64).toInt64).toInt32).toInt8.toInt32)), (.int ((((ha.toUInt64 >>> ((8 : Int32) &&& 0x3f).toInt64.toUInt64).toInt64).toInt32).toInt8.toInt32)), (.int ((ha.toInt32).toInt8.toInt32)), (.int ((((hb1.toUInt64 >>> ((56 : Int32) &&& 0x3f).toInt64.toUInt64).toInt64).toInt32).toInt8.toInt32)), (.int ((((hb1.toUInt64 >>> ((48 : Int32) &&& 0x3f).toInt64.toUInt64).toInt64).toInt32).toInt8.toInt32)), (.int ((((hb1.toUInt64 >>> ((40 : Int32) &&& 0x3f).toInt64.toUInt64).toInt64).toInt32).toInt8.toInt32)), (.int ((((hb1.toUInt64 >>> ((32 : Int32) &&& 0x3f).toInt64.toUInt64).toInt64).toInt32).toInt8.toInt32)), (.int ((((hb1.toUInt64 >>> ((24 : Int32) &&& 0x3f).toInt64.toUInt64).toInt64).toInt32).toInt8.toInt32)), (.int ((((hb1.toUInt64 >>> ((16 : Int32) &&& 0x3f).toInt64.toUInt64).toInt64).toInt32).toInt8.toInt32)), (.int ((((hb1.toUInt64 >>> ((8 : Int32) &&& 0x3f).toInt64.toUInt64).toInt64).toInt32).toInt8.toInt32)), (.int ((hb1.toInt32).toInt8.toInt32)), (.int ((((hc1.toUInt64 >>> ((56 : Int32) &&& 0x3f).toInt64.toUInt64).toInt64).toInt32).toInt8.toInt32)), (.int ((((hc1.toUInt64 >>> ((48 : Int32) &&& 0x3f).toInt64.toUInt64).toInt64).toInt32).toInt8.toInt32)), (.int ((((hc1.toUInt64 >>> ((40 : Int32) &&& 0x3f).toInt64.toUInt64).toInt64).toInt32).toInt8.toInt32)), (.int ((((hc1.toUInt64 >>> ((32 : Int32) &&& 0x3f).toInt64.toUInt64).toInt64).toInt32).toInt8.toInt32)), (.int ((((hc1.toUInt64 >>> ((24 : Int32) &&& 0x3f).toInt64.toUInt64).toInt64).toInt32).toInt8.toInt32)), (.int ((((hc1.toUInt64 >>> ((16 : Int32) &&& 0x3f).toInt64.toUInt64).toInt64).toInt32).toInt8.toInt32)), (.int ((((hc1.toUInt64 >>> ((8 : Int32) &&& 0x3f).toInt64.toUInt64).toInt64).toInt32).toInt8.toInt32)), (.int ((hc1.toInt32).toInt8.toInt32)), (.int ((((hd1.toUInt64 >>> ((56 : Int32) &&& 0x3f).toInt64.toUInt64).toInt64).toInt32).toInt8.toInt32)), (.int ((((hd1.toUInt64 >>> ((48 : Int32) &&& 0x3f).toInt64.toUInt64).toInt64).toInt32).toInt8.toInt32)), (.int ((((hd1.toUInt64 >>> ((40 : Int32) &&& 0x3f).toInt64.toUInt64).toInt64).toInt32).toInt8.toInt32)), (.int ((((hd1.toUInt64 >>> ((32 : Int32) &&& 0x3f).toInt64.toUInt64).toInt64).toInt32).toInt8.toInt32)), (.int ((((hd1.toUInt64 >>> ((24 : Int32) &&& 0x3f).toInt64.toUInt64).toInt64).toInt32).toInt8.toInt32)), (.int ((((hd1.toUInt64 >>> ((16 : Int32) &&& 0x3f).toInt64.toUInt64).toInt64).toInt32).toInt8.toInt32)), (.int ((((hd1.toUInt64 >>> ((8 : Int32) &&& 0x3f).toInt64.toUInt64).toInt64).toInt32).toInt8.toInt32)), (.int ((hd1.toInt32).toInt8.toInt32)), (.int ((q >>> ((8 : Int32) &&& 31)).toInt8.toInt32)), (.int (((c9.toUInt32 >>> ((24 : Int32) &&& 31).toUInt32).toInt32).toInt8.toInt32)), (.int (((c9.toUInt32 >>> ((16 : Int32) &&& 31).toUInt32).toInt32).toInt8.toInt32)), (.int (((c9.toUInt32 >>> ((8 : Int32) &&& 31).toUInt32).toInt32).toInt8.toInt32)), (.int (c9.toInt8.toInt32))] ++ tl) (.int (0 : Int32)) := Va280
      refine own_st (fun u_ k_ => st280 u_ k_) ?_
      show own_Go p e below _ (T280.setTop (mkF m 122 #[.val (.int q), .val (.long ha), .second, .val (.long hb1), .second, .val (.long hc1), .second, .val (.long hd1), .second, .val (.int c9), .val (.int n), .val (.ref b246), .unset, .unset, .unset, .unset, .unset] []))
      refine own_st (fun u_ k_ => XS.aload X280.here hx rfl (hb hby at_122) rfl rfl k_) ?_
      show own_Go p e below _ (T280.setTop (mkF m 124 #[.val (.int q), .val (.long ha), .second, .val (.long hb1), .second, .val (.long hc1), .second, .val (.long hd1), .second, .val (.int c9), .val (.int n), .val (.ref b246), .unset, .unset, .unset, .unset, .unset] [(.ref b246)]))
      have O282 : Old Z n0 T264.heap := O265.keep K264 (allS g254 all0)
      have O283 : Old Z n0 h268 := O282.wr W268 g254
      have O284 : Old Z n0 h270 := O283.wr W270 g254
      have O285 : Old Z n0 h272 := O284.wr W272 g254
      have O286 : Old Z n0 h274 := O285.wr W274 g254
      have O287 : Old Z n0 h276 := O286.wr W276 g254
      have O288 : Old Z n0 h280 := O287.wr W280 g254
      obtain ⟨T281, v281, L281, X281, hQ281, st281⟩ := own_callS X280 hx hZ (y := own_y_325) hown (own_w hw 1 rfl) (own_w hw 2 rfl) (own_w hw 3 rfl) (own_w hw 4 rfl) own_lm_238 (rmAf l Z a0 hw [] we hS b246 k246 n ([(.int ((((ha.toUInt64 >>> ((56 : Int32) &&& 0x3f).toInt64.toUInt64).toInt64).toInt32).toInt8.toInt32)), (.int ((((ha.toUInt64 >>> ((48 : Int32) &&& 0x3f).toInt64.toUInt64).toInt64).toInt32).toInt8.toInt32)), (.int ((((ha.toUInt64 >>> ((40 : Int32) &&& 0x3f).toInt64.toUInt64).toInt64).toInt32).toInt8.toInt32)), (.int ((((ha.toUInt64 >>> ((32 : Int32) &&& 0x3f).toInt64.toUInt64).toInt64).toInt32).toInt8.toInt32)), (.int ((((ha.toUInt64 >>> ((24 : Int32) &&& 0x3f).toInt64.toUInt64).toInt64).toInt32).toInt8.toInt32)), (.int ((((ha.toUInt64 >>> ((16 : Int32) &&& 0x3f).toInt64.toUInt64).toInt64).toInt32).toInt8.toInt32)), (.int ((((ha.toUInt64 >>> ((8 : Int32) &&& 0x3f).toInt64.toUInt64).toInt64).toInt32).toInt8.toInt32)), (.int ((ha.toInt32).toInt8.toInt32)), (.int ((((hb1.toUInt64 >>> ((56 : Int32) &&& 0x3f).toInt64.toUInt64).toInt64).toInt32).toInt8.toInt32)), (.int ((((hb1.toUInt64 >>> ((48 : Int32) &&& 0x3f).toInt64.toUInt64).toInt64).toInt32).toInt8.toInt32)), (.int ((((hb1.toUInt64 >>> ((40 : Int32) &&& 0x3f).toInt64.toUInt64).toInt64).toInt32).toInt8.toInt32)), (.int ((((hb1.toUInt64 >>> ((32 : Int32) &&& 0x3f).toInt64.toUInt64).toInt64).toInt32).toInt8.toInt32)), (.int ((((hb1.toUInt64 >>> ((24 : Int32) &&& 0x3f).toInt64.toUInt64).toInt64).toInt32).toInt8.toInt32)), (.int ((((hb1.toUInt64 >>> ((16 : Int32) &&& 0x3f).toInt64.toUInt64).toInt64).toInt32).toInt8.toInt32)), (.int ((((hb1.toUInt64 >>> ((8 : Int32) &&& 0x3f).toInt64.toUInt64).toInt64).toInt32).toInt8.toInt32)), (.int ((hb1.toInt32).toInt8.toInt32)), (.int ((((hc1.toUInt64 >>> ((56 : Int32) &&& 0x3f).toInt64.toUInt64).toInt64).toInt32).toInt8.toInt32)), (.int ((((hc1.toUInt64 >>> ((48 : Int32) &&& 0x3f).toInt64.toUInt64).toInt64).toInt32).toInt8.toInt32)), (.int ((((hc1.toUInt64 >>> ((40 : Int32) &&& 0x3f).toInt64.toUInt64).toInt64).toInt32).toInt8.toInt32)), (.int ((((hc1.toUInt64 >>> ((32 : Int32) &&& 0x3f).toInt64.toUInt64).toInt64).toInt32).toInt8.toInt32)), (.int ((((hc1.toUInt64 >>> ((24 : Int32) &&& 0x3f).toInt64.toUInt64).toInt64).toInt32).toInt8.toInt32)), (.int ((((hc1.toUInt64 >>> ((16 : Int32) &&& 0x3f).toInt64.toUInt64).toInt64).toInt32).toInt8.toInt32)), (.int ((((hc1.toUInt64 >>> ((8 : Int32) &&& 0x3f).toInt64.toUInt64).toInt64).toInt32).toInt8.toInt32)), (.int ((hc1.toInt32).toInt8.toInt32)), (.int ((((hd1.toUInt64 >>> ((56 : Int32) &&& 0x3f).toInt64.toUInt64).toInt64).toInt32).toInt8.toInt32)), (.int ((((hd1.toUInt64 >>> ((48 : Int32) &&& 0x3f).toInt64.toUInt64).toInt64).toInt32).toInt8.toInt32)), (.int ((((hd1.toUInt64 >>> ((40 : Int32) &&& 0x3f).toInt64.toUInt64).toInt64).toInt32).toInt8.toInt32)), (.int ((((hd1.toUInt64 >>> ((32 : Int32) &&& 0x3f).toInt64.toUInt64).toInt64).toInt32).toInt8.toInt32)), (.int ((((hd1.toUInt64 >>> ((24 : Int32) &&& 0x3f).toInt64.toUInt64).toInt64).toInt32).toInt8.toInt32)), (.int ((((hd1.toUInt64 >>> ((16 : Int32) &&& 0x3f).toInt64.toUInt64).toInt64).toInt32).toInt8.toInt32)), (.int ((((hd1.toUInt64 >>> ((8 : Int32) &&& 0x3f).toInt64.toUInt64).toInt64).toInt32).toInt8.toInt32)), (.int ((hd1.toInt32).toInt8.toInt32)), (.int ((q >>> ((8 : Int32) &&& 31)).toInt8.toInt32)), (.int (((c9.toUInt32 >>> ((24 : Int32) &&& 31).toUInt32).toInt32).toInt8.toInt32)), (.int (((c9.toUInt32 >>> ((16 : Int32) &&& 31).toUInt32).toInt32).toInt8.toInt32)), (.int (((c9.toUInt32 >>> ((8 : Int32) &&& 31).toUInt32).toInt32).toInt8.toInt32)), (.int (c9.toInt8.toInt32))] ++ tl) (((c9.toUInt32 >>> ((24 : Int32) &&& 31).toUInt32).toInt32).toInt8.toInt32) (((c9.toUInt32 >>> ((16 : Int32) &&& 31).toUInt32).toInt32).toInt8.toInt32) (((c9.toUInt32 >>> ((8 : Int32) &&& 31).toUInt32).toInt32).toInt8.toInt32) (c9.toInt8.toInt32) h280 n0 O288 V280 hc247 rfl rfl rfl rfl) e280 own_pd_346 (argsL := [(.ref b246)]) (rest := []) rfl rfl (g := (mkF m 124 #[.val (.int q), .val (.long ha), .second, .val (.long hb1), .second, .val (.long hc1), .second, .val (.long hd1), .second, .val (.int c9), .val (.int n), .val (.ref b246), .unset, .unset, .unset, .unset, .unset] [(.ref b246)])) rfl (by rw [hml]; rfl) rfl (hb hby at_124) (W := 0) rfl (by decide) (by decide) (by decide) (by decide)
      obtain ⟨r_289, a2_290, r3_291, k3_292, rfl, M281, K281, z293, z294, z295, F296, F297, F298, F299, F300, F301, F302⟩ := hQ281
      have N281 := Fr.app N280 M281
      refine own_st (fun u_ k_ => st281 u_ k_) ?_
      show own_Go p e below _ (T281.setTop (mkF m 127 #[.val (.int q), .val (.long ha), .second, .val (.long hb1), .second, .val (.long hc1), .second, .val (.long hd1), .second, .val (.int c9), .val (.int n), .val (.ref b246), .unset, .unset, .unset, .unset, .unset] [(.ref r_289)]))
      refine own_st (fun u_ k_ => XS.astore X281.here hx rfl (hb hby at_127) rfl rfl (l' := #[.val (.int q), .val (.long ha), .second, .val (.long hb1), .second, .val (.long hc1), .second, .val (.long hd1), .second, .val (.int c9), .val (.int n), .val (.ref b246), .val (.ref r_289), .unset, .unset, .unset, .unset]) rfl k_) ?_
      show own_Go p e below _ (T281.setTop (mkF m 129 #[.val (.int q), .val (.long ha), .second, .val (.long hb1), .second, .val (.long hc1), .second, .val (.long hd1), .second, .val (.int c9), .val (.int n), .val (.ref b246), .val (.ref r_289), .unset, .unset, .unset, .unset] []))
      refine own_st (fun u_ k_ => XS.iload X281.here hx rfl (hb hby at_129) rfl k_) ?_
      show own_Go p e below _ (T281.setTop (mkF m 131 #[.val (.int q), .val (.long ha), .second, .val (.long hb1), .second, .val (.long hc1), .second, .val (.long hd1), .second, .val (.int c9), .val (.int n), .val (.ref b246), .val (.ref r_289), .unset, .unset, .unset, .unset] [(.int n)]))
      refine own_st (fun u_ k_ => XS.bipush X281.here hx rfl (hb hby at_131) k_) ?_
      show own_Go p e below _ (T281.setTop (mkF m 133 #[.val (.int q), .val (.long ha), .second, .val (.long hb1), .second, .val (.long hc1), .second, .val (.long hd1), .second, .val (.int c9), .val (.int n), .val (.ref b246), .val (.ref r_289), .unset, .unset, .unset, .unset] [(.int (37 : Int32)), (.int n)]))
      refine own_st (fun u_ k_ => XS.icmpYes X281.here hx rfl (pc0 := 133) (pc' := 150) rfl (hb hby at_133) rfl (XT.ii_ge_t hc247) (by decide) (by decide) k_) ?_
      show own_Go p e below _ (T281.setTop (mkF m 150 #[.val (.int q), .val (.long ha), .second, .val (.long hb1), .second, .val (.long hc1), .second, .val (.long hd1), .second, .val (.int c9), .val (.int n), .val (.ref b246), .val (.ref r_289), .unset, .unset, .unset, .unset] []))
      refine own_st (fun u_ k_ => XS.aload X281.here hx rfl (hb hby at_150) rfl rfl k_) ?_
      show own_Go p e below _ (T281.setTop (mkF m 152 #[.val (.int q), .val (.long ha), .second, .val (.long hb1), .second, .val (.long hc1), .second, .val (.long hd1), .second, .val (.int c9), .val (.int n), .val (.ref b246), .val (.ref r_289), .unset, .unset, .unset, .unset] [(.ref r_289)]))
      have O304 : Old Z n0 T281.heap := O288.keep K281 all0
      obtain ⟨T303, v303, L303, X303, hQ303, st303⟩ := own_callV X281 hx hZ (y := own_y_308) (z := own_y_308) hown (own_w hw 10 rfl) (own_w hw 11 rfl) (notFace_of_selects (args := #[]) (mvT hZ (own_w hw 13 rfl))) (own_w hw 13 rfl) (own_w hw 12 rfl) (own_w hw 7 rfl) (own_w hw 14 rfl) own_lm_299 (rmOp1 l Z a0 hw [] we hS r_289 a2_290 T281.heap n0 O304 F297) rfl F296 own_pd_347 (argsL := []) (rest := []) rfl rfl (g := (mkF m 152 #[.val (.int q), .val (.long ha), .second, .val (.long hb1), .second, .val (.long hc1), .second, .val (.long hd1), .second, .val (.int c9), .val (.int n), .val (.ref b246), .val (.ref r_289), .unset, .unset, .unset, .unset] [(.ref r_289)])) rfl (by rw [hml]; rfl) rfl (hb hby at_152) (W := 0) rfl (by decide) (by decide) (by decide) (by decide)
      obtain ⟨rfl, M303, e303⟩ := hQ303
      have N303 := Fr.app N281 M303
      refine own_st (fun u_ k_ => st303 u_ k_) ?_
      show own_Go p e below _ (T303.setTop (mkF m 155 #[.val (.int q), .val (.long ha), .second, .val (.long hb1), .second, .val (.long hc1), .second, .val (.long hd1), .second, .val (.int c9), .val (.int n), .val (.ref b246), .val (.ref r_289), .unset, .unset, .unset, .unset] [(.int (1 : Int32))]))
      refine own_st (fun u_ k_ => XS.ifYes X303.here hx rfl (pc0 := 155) (pc' := 160) rfl (hb hby at_155) rfl (XT.i0_ne_t (by decide)) (by decide) (by decide) k_) ?_
      show own_Go p e below _ (T303.setTop (mkF m 160 #[.val (.int q), .val (.long ha), .second, .val (.long hb1), .second, .val (.long hc1), .second, .val (.long hd1), .second, .val (.int c9), .val (.int n), .val (.ref b246), .val (.ref r_289), .unset, .unset, .unset, .unset] []))
      have V305 : Arv Z T281.heap r3_291 k3_292 .byte (32 : Int32) [(.int ((((ha.toUInt64 >>> ((56 : Int32) &&& 0x3f).toInt64.toUInt64).toInt64).toInt32).toInt8.toInt32)), (.int ((((ha.toUInt64 >>> ((48 : Int32) &&& 0x3f).toInt64.toUInt64).toInt64).toInt32).toInt8.toInt32)), (.int ((((ha.toUInt64 >>> ((40 : Int32) &&& 0x3f).toInt64.toUInt64).toInt64).toInt32).toInt8.toInt32)), (.int ((((ha.toUInt64 >>> ((32 : Int32) &&& 0x3f).toInt64.toUInt64).toInt64).toInt32).toInt8.toInt32)), (.int ((((ha.toUInt64 >>> ((24 : Int32) &&& 0x3f).toInt64.toUInt64).toInt64).toInt32).toInt8.toInt32)), (.int ((((ha.toUInt64 >>> ((16 : Int32) &&& 0x3f).toInt64.toUInt64).toInt64).toInt32).toInt8.toInt32)), (.int ((((ha.toUInt64 >>> ((8 : Int32) &&& 0x3f).toInt64.toUInt64).toInt64).toInt32).toInt8.toInt32)), (.int ((ha.toInt32).toInt8.toInt32)), (.int ((((hb1.toUInt64 >>> ((56 : Int32) &&& 0x3f).toInt64.toUInt64).toInt64).toInt32).toInt8.toInt32)), (.int ((((hb1.toUInt64 >>> ((48 : Int32) &&& 0x3f).toInt64.toUInt64).toInt64).toInt32).toInt8.toInt32)), (.int ((((hb1.toUInt64 >>> ((40 : Int32) &&& 0x3f).toInt64.toUInt64).toInt64).toInt32).toInt8.toInt32)), (.int ((((hb1.toUInt64 >>> ((32 : Int32) &&& 0x3f).toInt64.toUInt64).toInt64).toInt32).toInt8.toInt32)), (.int ((((hb1.toUInt64 >>> ((24 : Int32) &&& 0x3f).toInt64.toUInt64).toInt64).toInt32).toInt8.toInt32)), (.int ((((hb1.toUInt64 >>> ((16 : Int32) &&& 0x3f).toInt64.toUInt64).toInt64).toInt32).toInt8.toInt32)), (.int ((((hb1.toUInt64 >>> ((8 : Int32) &&& 0x3f).toInt64.toUInt64).toInt64).toInt32).toInt8.toInt32)), (.int ((hb1.toInt32).toInt8.toInt32)), (.int ((((hc1.toUInt64 >>> ((56 : Int32) &&& 0x3f).toInt64.toUInt64).toInt64).toInt32).toInt8.toInt32)), (.int ((((hc1.toUInt64 >>> ((48 : Int32) &&& 0x3f).toInt64.toUInt64).toInt64).toInt32).toInt8.toInt32)), (.int ((((hc1.toUInt64 >>> ((40 : Int32) &&& 0x3f).toInt64.toUInt64).toInt64).toInt32).toInt8.toInt32)), (.int ((((hc1.toUInt64 >>> ((32 : Int32) &&& 0x3f).toInt64.toUInt64).toInt64).toInt32).toInt8.toInt32)), (.int ((((hc1.toUInt64 >>> ((24 : Int32) &&& 0x3f).toInt64.toUInt64).toInt64).toInt32).toInt8.toInt32)), (.int ((((hc1.toUInt64 >>> ((16 : Int32) &&& 0x3f).toInt64.toUInt64).toInt64).toInt32).toInt8.toInt32)), (.int ((((hc1.toUInt64 >>> ((8 : Int32) &&& 0x3f).toInt64.toUInt64).toInt64).toInt32).toInt8.toInt32)), (.int ((hc1.toInt32).toInt8.toInt32)), (.int ((((hd1.toUInt64 >>> ((56 : Int32) &&& 0x3f).toInt64.toUInt64).toInt64).toInt32).toInt8.toInt32)), (.int ((((hd1.toUInt64 >>> ((48 : Int32) &&& 0x3f).toInt64.toUInt64).toInt64).toInt32).toInt8.toInt32)), (.int ((((hd1.toUInt64 >>> ((40 : Int32) &&& 0x3f).toInt64.toUInt64).toInt64).toInt32).toInt8.toInt32)), (.int ((((hd1.toUInt64 >>> ((32 : Int32) &&& 0x3f).toInt64.toUInt64).toInt64).toInt32).toInt8.toInt32)), (.int ((((hd1.toUInt64 >>> ((24 : Int32) &&& 0x3f).toInt64.toUInt64).toInt64).toInt32).toInt8.toInt32)), (.int ((((hd1.toUInt64 >>> ((16 : Int32) &&& 0x3f).toInt64.toUInt64).toInt64).toInt32).toInt8.toInt32)), (.int ((((hd1.toUInt64 >>> ((8 : Int32) &&& 0x3f).toInt64.toUInt64).toInt64).toInt32).toInt8.toInt32)), (.int ((hd1.toInt32).toInt8.toInt32))] (.int (0 : Int32)) := F301
      refine own_st (fun u_ k_ => XS.aload X303.here hx rfl (hb hby at_160) rfl rfl k_) ?_
      show own_Go p e below _ (T303.setTop (mkF m 162 #[.val (.int q), .val (.long ha), .second, .val (.long hb1), .second, .val (.long hc1), .second, .val (.long hd1), .second, .val (.int c9), .val (.int n), .val (.ref b246), .val (.ref r_289), .unset, .unset, .unset, .unset] [(.ref b246)]))
      refine own_st (fun u_ k_ => XS.iconst X303.here hx rfl (hb hby at_162) k_) ?_
      show own_Go p e below _ (T303.setTop (mkF m 163 #[.val (.int q), .val (.long ha), .second, .val (.long hb1), .second, .val (.long hc1), .second, .val (.long hd1), .second, .val (.int c9), .val (.int n), .val (.ref b246), .val (.ref r_289), .unset, .unset, .unset, .unset] [(.int (0 : Int32)), (.ref b246)]))
      refine own_st (fun u_ k_ => XS.aload X303.here hx rfl (hb hby at_163) rfl rfl k_) ?_
      show own_Go p e below _ (T303.setTop (mkF m 165 #[.val (.int q), .val (.long ha), .second, .val (.long hb1), .second, .val (.long hc1), .second, .val (.long hd1), .second, .val (.int c9), .val (.int n), .val (.ref b246), .val (.ref r_289), .unset, .unset, .unset, .unset] [(.ref b246), (.int (0 : Int32)), (.ref b246)]))
      refine own_st (fun u_ k_ => XS.iconst X303.here hx rfl (hb hby at_165) k_) ?_
      show own_Go p e below _ (T303.setTop (mkF m 166 #[.val (.int q), .val (.long ha), .second, .val (.long hb1), .second, .val (.long hc1), .second, .val (.long hd1), .second, .val (.int c9), .val (.int n), .val (.ref b246), .val (.ref r_289), .unset, .unset, .unset, .unset] [(.int (0 : Int32)), (.ref b246), (.int (0 : Int32)), (.ref b246)]))
      have F306 := (V280.keep K281 nin0)
      obtain ⟨cl307, Ar307, q307, S307, N307, H307, G307⟩ := id F306
      have hi307 : ¬ ((0 : Int32) < 0 ∨ cl307.slots.size ≤ ((0 : Int32)).toNatClampNeg) := inb_of S307 ⟨by decide, own_lt37 hc247 (by decide)⟩
      have ha307 : cl307.slots[((0 : Int32)).toNatClampNeg]? = some (.int ((((ha.toUInt64 >>> ((56 : Int32) &&& 0x3f).toInt64.toUInt64).toInt64).toInt32).toInt8.toInt32)) := H307.at hi307 rfl
      refine own_st (X303.baloadBytes hx (j := (0 : Int32)) (v := (.int ((((ha.toUInt64 >>> ((56 : Int32) &&& 0x3f).toInt64.toUInt64).toInt64).toInt32).toInt8.toInt32))) (by rw [e303]; exact Ar307.1) (State.isArrayOf_alike hZ.alike Ar307.2.1) Ar307.2.2 hi307 ha307 (g := (mkF m 166 #[.val (.int q), .val (.long ha), .second, .val (.long hb1), .second, .val (.long hc1), .second, .val (.long hd1), .second, .val (.int c9), .val (.int n), .val (.ref b246), .val (.ref r_289), .unset, .unset, .unset, .unset] [(.int (0 : Int32)), (.ref b246), (.int (0 : Int32)), (.ref b246)])) rfl rfl (hb hby at_166)) ?_
      show own_Go p e below _ (T303.setTop (mkF m 167 #[.val (.int q), .val (.long ha), .second, .val (.long hb1), .second, .val (.long hc1), .second, .val (.long hd1), .second, .val (.int c9), .val (.int n), .val (.ref b246), .val (.ref r_289), .unset, .unset, .unset, .unset] [(.int ((((ha.toUInt64 >>> ((56 : Int32) &&& 0x3f).toInt64.toUInt64).toInt64).toInt32).toInt8.toInt32)), (.int (0 : Int32)), (.ref b246)]))
      refine own_st (fun u_ k_ => XS.iconst X303.here hx rfl (hb hby at_167) k_) ?_
      show own_Go p e below _ (T303.setTop (mkF m 168 #[.val (.int q), .val (.long ha), .second, .val (.long hb1), .second, .val (.long hc1), .second, .val (.long hd1), .second, .val (.int c9), .val (.int n), .val (.ref b246), .val (.ref r_289), .unset, .unset, .unset, .unset] [(.int (-1 : Int32)), (.int ((((ha.toUInt64 >>> ((56 : Int32) &&& 0x3f).toInt64.toUInt64).toInt64).toInt32).toInt8.toInt32)), (.int (0 : Int32)), (.ref b246)]))
      refine own_st (fun u_ k_ => XS.ixor X303.here hx rfl (hb hby at_168) rfl k_) ?_
      show own_Go p e below _ (T303.setTop (mkF m 169 #[.val (.int q), .val (.long ha), .second, .val (.long hb1), .second, .val (.long hc1), .second, .val (.long hd1), .second, .val (.int c9), .val (.int n), .val (.ref b246), .val (.ref r_289), .unset, .unset, .unset, .unset] [(.int (((((ha.toUInt64 >>> ((56 : Int32) &&& 0x3f).toInt64.toUInt64).toInt64).toInt32).toInt8.toInt32) ^^^ (-1 : Int32))), (.int (0 : Int32)), (.ref b246)]))
      refine own_st (fun u_ k_ => XS.i2b X303.here hx rfl (hb hby at_169) rfl k_) ?_
      show own_Go p e below _ (T303.setTop (mkF m 170 #[.val (.int q), .val (.long ha), .second, .val (.long hb1), .second, .val (.long hc1), .second, .val (.long hd1), .second, .val (.int c9), .val (.int n), .val (.ref b246), .val (.ref r_289), .unset, .unset, .unset, .unset] [(.int ((((((ha.toUInt64 >>> ((56 : Int32) &&& 0x3f).toInt64.toUInt64).toInt64).toInt32).toInt8.toInt32) ^^^ (-1 : Int32)).toInt8.toInt32)), (.int (0 : Int32)), (.ref b246)]))
      obtain ⟨cl308, Ar308, q308, S308, N308, H308, G308⟩ := id F306
      have hi308 : ¬ ((0 : Int32) < 0 ∨ cl308.slots.size ≤ ((0 : Int32)).toNatClampNeg) := inb_of S308 ⟨by decide, own_lt37 hc247 (by decide)⟩
      obtain ⟨T309, h309, X309, e309, W309, st309⟩ := stB X303 hx hZ e303 Ar308 (j := (0 : Int32)) hi308 (g := (mkF m 170 #[.val (.int q), .val (.long ha), .second, .val (.long hb1), .second, .val (.long hc1), .second, .val (.long hd1), .second, .val (.int c9), .val (.int n), .val (.ref b246), .val (.ref r_289), .unset, .unset, .unset, .unset] [(.int ((((((ha.toUInt64 >>> ((56 : Int32) &&& 0x3f).toInt64.toUInt64).toInt64).toInt32).toInt8.toInt32) ^^^ (-1 : Int32)).toInt8.toInt32)), (.int (0 : Int32)), (.ref b246)])) rfl rfl (hb hby at_170)
      rw [own_bb] at W309
      have N309 := Fr.snoc X309 N303 g254
      have V309 : Arv Z h309 b246 k246 .byte n (List.set ([(.int ((((ha.toUInt64 >>> ((56 : Int32) &&& 0x3f).toInt64.toUInt64).toInt64).toInt32).toInt8.toInt32)), (.int ((((ha.toUInt64 >>> ((48 : Int32) &&& 0x3f).toInt64.toUInt64).toInt64).toInt32).toInt8.toInt32)), (.int ((((ha.toUInt64 >>> ((40 : Int32) &&& 0x3f).toInt64.toUInt64).toInt64).toInt32).toInt8.toInt32)), (.int ((((ha.toUInt64 >>> ((32 : Int32) &&& 0x3f).toInt64.toUInt64).toInt64).toInt32).toInt8.toInt32)), (.int ((((ha.toUInt64 >>> ((24 : Int32) &&& 0x3f).toInt64.toUInt64).toInt64).toInt32).toInt8.toInt32)), (.int ((((ha.toUInt64 >>> ((16 : Int32) &&& 0x3f).toInt64.toUInt64).toInt64).toInt32).toInt8.toInt32)), (.int ((((ha.toUInt64 >>> ((8 : Int32) &&& 0x3f).toInt64.toUInt64).toInt64).toInt32).toInt8.toInt32)), (.int ((ha.toInt32).toInt8.toInt32)), (.int ((((hb1.toUInt64 >>> ((56 : Int32) &&& 0x3f).toInt64.toUInt64).toInt64).toInt32).toInt8.toInt32)), (.int ((((hb1.toUInt64 >>> ((48 : Int32) &&& 0x3f).toInt64.toUInt64).toInt64).toInt32).toInt8.toInt32)), (.int ((((hb1.toUInt64 >>> ((40 : Int32) &&& 0x3f).toInt64.toUInt64).toInt64).toInt32).toInt8.toInt32)), (.int ((((hb1.toUInt64 >>> ((32 : Int32) &&& 0x3f).toInt64.toUInt64).toInt64).toInt32).toInt8.toInt32)), (.int ((((hb1.toUInt64 >>> ((24 : Int32) &&& 0x3f).toInt64.toUInt64).toInt64).toInt32).toInt8.toInt32)), (.int ((((hb1.toUInt64 >>> ((16 : Int32) &&& 0x3f).toInt64.toUInt64).toInt64).toInt32).toInt8.toInt32)), (.int ((((hb1.toUInt64 >>> ((8 : Int32) &&& 0x3f).toInt64.toUInt64).toInt64).toInt32).toInt8.toInt32)), (.int ((hb1.toInt32).toInt8.toInt32)), (.int ((((hc1.toUInt64 >>> ((56 : Int32) &&& 0x3f).toInt64.toUInt64).toInt64).toInt32).toInt8.toInt32)), (.int ((((hc1.toUInt64 >>> ((48 : Int32) &&& 0x3f).toInt64.toUInt64).toInt64).toInt32).toInt8.toInt32)), (.int ((((hc1.toUInt64 >>> ((40 : Int32) &&& 0x3f).toInt64.toUInt64).toInt64).toInt32).toInt8.toInt32)), (.int ((((hc1.toUInt64 >>> ((32 : Int32) &&& 0x3f).toInt64.toUInt64).toInt64).toInt32).toInt8.toInt32)), (.int ((((hc1.toUInt64 >>> ((24 : Int32) &&& 0x3f).toInt64.toUInt64).toInt64).toInt32).toInt8.toInt32)), (.int ((((hc1.toUInt64 >>> ((16 : Int32) &&& 0x3f).toInt64.toUInt64).toInt64).toInt32).toInt8.toInt32)), (.int ((((hc1.toUInt64 >>> ((8 : Int32) &&& 0x3f).toInt64.toUInt64).toInt64).toInt32).toInt8.toInt32)), (.int ((hc1.toInt32).toInt8.toInt32)), (.int ((((hd1.toUInt64 >>> ((56 : Int32) &&& 0x3f).toInt64.toUInt64).toInt64).toInt32).toInt8.toInt32)), (.int ((((hd1.toUInt64 >>> ((48 : Int32) &&& 0x3f).toInt64.toUInt64).toInt64).toInt32).toInt8.toInt32)), (.int ((((hd1.toUInt64 >>> ((40 : Int32) &&& 0x3f).toInt64.toUInt64).toInt64).toInt32).toInt8.toInt32)), (.int ((((hd1.toUInt64 >>> ((32 : Int32) &&& 0x3f).toInt64.toUInt64).toInt64).toInt32).toInt8.toInt32)), (.int ((((hd1.toUInt64 >>> ((24 : Int32) &&& 0x3f).toInt64.toUInt64).toInt64).toInt32).toInt8.toInt32)), (.int ((((hd1.toUInt64 >>> ((16 : Int32) &&& 0x3f).toInt64.toUInt64).toInt64).toInt32).toInt8.toInt32)), (.int ((((hd1.toUInt64 >>> ((8 : Int32) &&& 0x3f).toInt64.toUInt64).toInt64).toInt32).toInt8.toInt32)), (.int ((hd1.toInt32).toInt8.toInt32)), (.int ((q >>> ((8 : Int32) &&& 31)).toInt8.toInt32)), (.int (((c9.toUInt32 >>> ((24 : Int32) &&& 31).toUInt32).toInt32).toInt8.toInt32)), (.int (((c9.toUInt32 >>> ((16 : Int32) &&& 31).toUInt32).toInt32).toInt8.toInt32)), (.int (((c9.toUInt32 >>> ((8 : Int32) &&& 31).toUInt32).toInt32).toInt8.toInt32)), (.int (c9.toInt8.toInt32))] ++ tl) 0 (.int ((((((ha.toUInt64 >>> ((56 : Int32) &&& 0x3f).toInt64.toUInt64).toInt64).toInt32).toInt8.toInt32) ^^^ (-1 : Int32)).toInt8.toInt32))) (.int (0 : Int32)) := Arv.set Ar308 q308 S308 N308 H308 G308 (fits_nar_byte _) W309 0 rfl (by simp only [List.length_append, List.length_cons]; omega)
      refine own_st (fun u_ k_ => st309 u_ k_) ?_
      show own_Go p e below _ (T309.setTop (mkF m 171 #[.val (.int q), .val (.long ha), .second, .val (.long hb1), .second, .val (.long hc1), .second, .val (.long hd1), .second, .val (.int c9), .val (.int n), .val (.ref b246), .val (.ref r_289), .unset, .unset, .unset, .unset] []))
      refine own_st (fun u_ k_ => XS.aload X309.here hx rfl (hb hby at_171) rfl rfl k_) ?_
      show own_Go p e below _ (T309.setTop (mkF m 173 #[.val (.int q), .val (.long ha), .second, .val (.long hb1), .second, .val (.long hc1), .second, .val (.long hd1), .second, .val (.int c9), .val (.int n), .val (.ref b246), .val (.ref r_289), .unset, .unset, .unset, .unset] [(.ref r_289)]))
      have ne310 : r_289 ≠ b246 := (Ne.symm (Nat.ne_of_lt (Nat.lt_of_lt_of_le (Nat.lt_of_lt_of_le Y246.lt (Nat.le_trans (Nat.le_trans (Nat.le_trans (Nat.le_trans (Nat.le_trans (Nat.le_trans (Nat.le_trans (Nat.le_trans (Nat.le_trans K255.1 K258.1) K261.1) K264.1) (Nat.le_of_eq W268.size.symm)) (Nat.le_of_eq W270.size.symm)) (Nat.le_of_eq W272.size.symm)) (Nat.le_of_eq W274.size.symm)) (Nat.le_of_eq W276.size.symm)) (Nat.le_of_eq W280.size.symm))) z293)))
      have F311 := (Fld.other W309 F297 (Or.inl ne310))
      have O313 : Old Z n0 h309 := O304.wr W309 g254
      have F314 := (Exa.wr W309 F296)
      obtain ⟨T312, v312, L312, X312, hQ312, st312⟩ := own_callV X309 hx hZ (y := own_y_317) (z := own_y_317) hown (own_w hw 66 rfl) (own_w hw 67 rfl) (notFace_of_selects (args := #[]) (mvT hZ (own_w hw 69 rfl))) (own_w hw 69 rfl) (own_w hw 68 rfl) (own_w hw 7 rfl) (own_w hw 70 rfl) own_lm_299 (rmOg l Z a0 hw [] we hS r_289 a2_290 h309 n0 O313 F311) e309 F314 own_pd_350 (argsL := []) (rest := []) rfl rfl (g := (mkF m 173 #[.val (.int q), .val (.long ha), .second, .val (.long hb1), .second, .val (.long hc1), .second, .val (.long hd1), .second, .val (.int c9), .val (.int n), .val (.ref b246), .val (.ref r_289), .unset, .unset, .unset, .unset] [(.ref r_289)])) rfl (by rw [hml]; rfl) rfl (hb hby at_173) (W := 0) rfl (by decide) (by decide) (by decide) (by decide)
      obtain ⟨rfl, M312, e312⟩ := hQ312
      have N312 := Fr.app N309 M312
      refine own_st (fun u_ k_ => st312 u_ k_) ?_
      show own_Go p e below _ (T312.setTop (mkF m 176 #[.val (.int q), .val (.long ha), .second, .val (.long hb1), .second, .val (.long hc1), .second, .val (.long hd1), .second, .val (.int c9), .val (.int n), .val (.ref b246), .val (.ref r_289), .unset, .unset, .unset, .unset] [(.ref a2_290)]))
      have F316 := (Exa.wr W309 F298)
      obtain ⟨T315, X315, e315, st315⟩ := castY X312 hx hZ hown (own_w hw 71 rfl) e312 (Ins.self F316) (g := (mkF m 176 #[.val (.int q), .val (.long ha), .second, .val (.long hb1), .second, .val (.long hc1), .second, .val (.long hd1), .second, .val (.int c9), .val (.int n), .val (.ref b246), .val (.ref r_289), .unset, .unset, .unset, .unset] [(.ref a2_290)])) rfl rfl (hb hby at_176)
      refine own_st (fun u_ k_ => st315 u_ k_) ?_
      show own_Go p e below _ (T315.setTop (mkF m 179 #[.val (.int q), .val (.long ha), .second, .val (.long hb1), .second, .val (.long hc1), .second, .val (.long hd1), .second, .val (.int c9), .val (.int n), .val (.ref b246), .val (.ref r_289), .unset, .unset, .unset, .unset] [(.ref a2_290)]))
      refine own_st (fun u_ k_ => XS.astore X315.here hx rfl (hb hby at_179) rfl rfl (l' := #[.val (.int q), .val (.long ha), .second, .val (.long hb1), .second, .val (.long hc1), .second, .val (.long hd1), .second, .val (.int c9), .val (.int n), .val (.ref b246), .val (.ref r_289), .val (.ref a2_290), .unset, .unset, .unset]) rfl k_) ?_
      show own_Go p e below _ (T315.setTop (mkF m 181 #[.val (.int q), .val (.long ha), .second, .val (.long hb1), .second, .val (.long hc1), .second, .val (.long hd1), .second, .val (.int c9), .val (.int n), .val (.ref b246), .val (.ref r_289), .val (.ref a2_290), .unset, .unset, .unset] []))
      refine own_st (fun u_ k_ => XS.aload X315.here hx rfl (hb hby at_181) rfl rfl k_) ?_
      show own_Go p e below _ (T315.setTop (mkF m 183 #[.val (.int q), .val (.long ha), .second, .val (.long hb1), .second, .val (.long hc1), .second, .val (.long hd1), .second, .val (.int c9), .val (.int n), .val (.ref b246), .val (.ref r_289), .val (.ref a2_290), .unset, .unset, .unset] [(.ref a2_290)]))
      have ne317 : a2_290 ≠ b246 := (Ne.symm (Nat.ne_of_lt (Nat.lt_of_lt_of_le (Nat.lt_of_lt_of_le Y246.lt (Nat.le_trans (Nat.le_trans (Nat.le_trans (Nat.le_trans (Nat.le_trans (Nat.le_trans (Nat.le_trans (Nat.le_trans (Nat.le_trans K255.1 K258.1) K261.1) K264.1) (Nat.le_of_eq W268.size.symm)) (Nat.le_of_eq W270.size.symm)) (Nat.le_of_eq W272.size.symm)) (Nat.le_of_eq W274.size.symm)) (Nat.le_of_eq W276.size.symm)) (Nat.le_of_eq W280.size.symm))) z294)))
      have F318 := (Fld.other W309 F299 (Or.inl ne317))
      have ne319 : r3_291 ≠ b246 := (Ne.symm (Nat.ne_of_lt (Nat.lt_of_lt_of_le (Nat.lt_of_lt_of_le Y246.lt (Nat.le_trans (Nat.le_trans (Nat.le_trans (Nat.le_trans (Nat.le_trans (Nat.le_trans (Nat.le_trans (Nat.le_trans (Nat.le_trans K255.1 K258.1) K261.1) K264.1) (Nat.le_of_eq W268.size.symm)) (Nat.le_of_eq W270.size.symm)) (Nat.le_of_eq W272.size.symm)) (Nat.le_of_eq W274.size.symm)) (Nat.le_of_eq W276.size.symm)) (Nat.le_of_eq W280.size.symm))) z295)))
      have F320 := (V305.other W309 ne319)
      have F321 := (Exa.wr W309 F302)
      obtain ⟨T322, v322, L322, X322, hQ322, st322⟩ := own_callV X315 hx hZ (y := own_y_341) (z := own_y_341) hown (own_w hw 73 rfl) (own_w hw 74 rfl) (notFace_of_selects (args := #[]) (mvT hZ (own_w hw 76 rfl))) (own_w hw 76 rfl) (own_w hw 75 rfl) (own_w hw 3 rfl) (own_w hw 77 rfl) own_lm_238 (rmH l Z a0 hw [] we hS a2_290 r3_291 k3_292 [(.int ((((ha.toUInt64 >>> ((56 : Int32) &&& 0x3f).toInt64.toUInt64).toInt64).toInt32).toInt8.toInt32)), (.int ((((ha.toUInt64 >>> ((48 : Int32) &&& 0x3f).toInt64.toUInt64).toInt64).toInt32).toInt8.toInt32)), (.int ((((ha.toUInt64 >>> ((40 : Int32) &&& 0x3f).toInt64.toUInt64).toInt64).toInt32).toInt8.toInt32)), (.int ((((ha.toUInt64 >>> ((32 : Int32) &&& 0x3f).toInt64.toUInt64).toInt64).toInt32).toInt8.toInt32)), (.int ((((ha.toUInt64 >>> ((24 : Int32) &&& 0x3f).toInt64.toUInt64).toInt64).toInt32).toInt8.toInt32)), (.int ((((ha.toUInt64 >>> ((16 : Int32) &&& 0x3f).toInt64.toUInt64).toInt64).toInt32).toInt8.toInt32)), (.int ((((ha.toUInt64 >>> ((8 : Int32) &&& 0x3f).toInt64.toUInt64).toInt64).toInt32).toInt8.toInt32)), (.int ((ha.toInt32).toInt8.toInt32)), (.int ((((hb1.toUInt64 >>> ((56 : Int32) &&& 0x3f).toInt64.toUInt64).toInt64).toInt32).toInt8.toInt32)), (.int ((((hb1.toUInt64 >>> ((48 : Int32) &&& 0x3f).toInt64.toUInt64).toInt64).toInt32).toInt8.toInt32)), (.int ((((hb1.toUInt64 >>> ((40 : Int32) &&& 0x3f).toInt64.toUInt64).toInt64).toInt32).toInt8.toInt32)), (.int ((((hb1.toUInt64 >>> ((32 : Int32) &&& 0x3f).toInt64.toUInt64).toInt64).toInt32).toInt8.toInt32)), (.int ((((hb1.toUInt64 >>> ((24 : Int32) &&& 0x3f).toInt64.toUInt64).toInt64).toInt32).toInt8.toInt32)), (.int ((((hb1.toUInt64 >>> ((16 : Int32) &&& 0x3f).toInt64.toUInt64).toInt64).toInt32).toInt8.toInt32)), (.int ((((hb1.toUInt64 >>> ((8 : Int32) &&& 0x3f).toInt64.toUInt64).toInt64).toInt32).toInt8.toInt32)), (.int ((hb1.toInt32).toInt8.toInt32)), (.int ((((hc1.toUInt64 >>> ((56 : Int32) &&& 0x3f).toInt64.toUInt64).toInt64).toInt32).toInt8.toInt32)), (.int ((((hc1.toUInt64 >>> ((48 : Int32) &&& 0x3f).toInt64.toUInt64).toInt64).toInt32).toInt8.toInt32)), (.int ((((hc1.toUInt64 >>> ((40 : Int32) &&& 0x3f).toInt64.toUInt64).toInt64).toInt32).toInt8.toInt32)), (.int ((((hc1.toUInt64 >>> ((32 : Int32) &&& 0x3f).toInt64.toUInt64).toInt64).toInt32).toInt8.toInt32)), (.int ((((hc1.toUInt64 >>> ((24 : Int32) &&& 0x3f).toInt64.toUInt64).toInt64).toInt32).toInt8.toInt32)), (.int ((((hc1.toUInt64 >>> ((16 : Int32) &&& 0x3f).toInt64.toUInt64).toInt64).toInt32).toInt8.toInt32)), (.int ((((hc1.toUInt64 >>> ((8 : Int32) &&& 0x3f).toInt64.toUInt64).toInt64).toInt32).toInt8.toInt32)), (.int ((hc1.toInt32).toInt8.toInt32)), (.int ((((hd1.toUInt64 >>> ((56 : Int32) &&& 0x3f).toInt64.toUInt64).toInt64).toInt32).toInt8.toInt32)), (.int ((((hd1.toUInt64 >>> ((48 : Int32) &&& 0x3f).toInt64.toUInt64).toInt64).toInt32).toInt8.toInt32)), (.int ((((hd1.toUInt64 >>> ((40 : Int32) &&& 0x3f).toInt64.toUInt64).toInt64).toInt32).toInt8.toInt32)), (.int ((((hd1.toUInt64 >>> ((32 : Int32) &&& 0x3f).toInt64.toUInt64).toInt64).toInt32).toInt8.toInt32)), (.int ((((hd1.toUInt64 >>> ((24 : Int32) &&& 0x3f).toInt64.toUInt64).toInt64).toInt32).toInt8.toInt32)), (.int ((((hd1.toUInt64 >>> ((16 : Int32) &&& 0x3f).toInt64.toUInt64).toInt64).toInt32).toInt8.toInt32)), (.int ((((hd1.toUInt64 >>> ((8 : Int32) &&& 0x3f).toInt64.toUInt64).toInt64).toInt32).toInt8.toInt32)), (.int ((hd1.toInt32).toInt8.toInt32))] h309 n0 O313 F318 F320 F321) e315 F316 own_pd_351 (argsL := []) (rest := []) rfl rfl (g := (mkF m 183 #[.val (.int q), .val (.long ha), .second, .val (.long hb1), .second, .val (.long hc1), .second, .val (.long hd1), .second, .val (.int c9), .val (.int n), .val (.ref b246), .val (.ref r_289), .val (.ref a2_290), .unset, .unset, .unset] [(.ref a2_290)])) rfl (by rw [hml]; rfl) rfl (hb hby at_183) (W := 0) rfl (by decide) (by decide) (by decide) (by decide)
      obtain ⟨r_323, kr_324, rfl, M322, K322, z325, F326, F327⟩ := hQ322
      have N322 := Fr.app N312 M322
      refine own_st (fun u_ k_ => st322 u_ k_) ?_
      show own_Go p e below _ (T322.setTop (mkF m 186 #[.val (.int q), .val (.long ha), .second, .val (.long hb1), .second, .val (.long hc1), .second, .val (.long hd1), .second, .val (.int c9), .val (.int n), .val (.ref b246), .val (.ref r_289), .val (.ref a2_290), .unset, .unset, .unset] [(.ref r_323)]))
      refine own_st (fun u_ k_ => XS.astore X322.here hx rfl (hb hby at_186) rfl rfl (l' := #[.val (.int q), .val (.long ha), .second, .val (.long hb1), .second, .val (.long hc1), .second, .val (.long hd1), .second, .val (.int c9), .val (.int n), .val (.ref b246), .val (.ref r_289), .val (.ref a2_290), .val (.ref r_323), .unset, .unset]) rfl k_) ?_
      show own_Go p e below _ (T322.setTop (mkF m 188 #[.val (.int q), .val (.long ha), .second, .val (.long hb1), .second, .val (.long hc1), .second, .val (.long hd1), .second, .val (.int c9), .val (.int n), .val (.ref b246), .val (.ref r_289), .val (.ref a2_290), .val (.ref r_323), .unset, .unset] []))
      refine own_st (fun u_ k_ => XS.aload X322.here hx rfl (hb hby at_188) rfl rfl k_) ?_
      show own_Go p e below _ (T322.setTop (mkF m 190 #[.val (.int q), .val (.long ha), .second, .val (.long hb1), .second, .val (.long hc1), .second, .val (.long hd1), .second, .val (.int c9), .val (.int n), .val (.ref b246), .val (.ref r_289), .val (.ref a2_290), .val (.ref r_323), .unset, .unset] [(.ref r_323)]))
      obtain ⟨cl328, Ar328, -, S328, N328, -, -⟩ := id F326
      refine own_st (X322.arraylength hx Ar328.1 (State.isArrayOf_alike hZ.alike Ar328.2.1) (g := (mkF m 190 #[.val (.int q), .val (.long ha), .second, .val (.long hb1), .second, .val (.long hc1), .second, .val (.long hd1), .second, .val (.int c9), .val (.int n), .val (.ref b246), .val (.ref r_289), .val (.ref a2_290), .val (.ref r_323), .unset, .unset] [(.ref r_323)])) rfl rfl (hb hby at_190)) ?_
      rw [len_of S328 N328]
      show own_Go p e below _ (T322.setTop (mkF m 191 #[.val (.int q), .val (.long ha), .second, .val (.long hb1), .second, .val (.long hc1), .second, .val (.long hd1), .second, .val (.int c9), .val (.int n), .val (.ref b246), .val (.ref r_289), .val (.ref a2_290), .val (.ref r_323), .unset, .unset] [(.int (32 : Int32))]))
      refine own_st (fun u_ k_ => XS.bipush X322.here hx rfl (hb hby at_191) k_) ?_
      show own_Go p e below _ (T322.setTop (mkF m 193 #[.val (.int q), .val (.long ha), .second, .val (.long hb1), .second, .val (.long hc1), .second, .val (.long hd1), .second, .val (.int c9), .val (.int n), .val (.ref b246), .val (.ref r_289), .val (.ref a2_290), .val (.ref r_323), .unset, .unset] [(.int (32 : Int32)), (.int (32 : Int32))]))
      refine own_st (fun u_ k_ => XS.icmpYes X322.here hx rfl (pc0 := 193) (pc' := 198) rfl (hb hby at_193) rfl (XT.ii_eq_t (by decide)) (by decide) (by decide) k_) ?_
      show own_Go p e below _ (T322.setTop (mkF m 198 #[.val (.int q), .val (.long ha), .second, .val (.long hb1), .second, .val (.long hc1), .second, .val (.long hd1), .second, .val (.int c9), .val (.int n), .val (.ref b246), .val (.ref r_289), .val (.ref a2_290), .val (.ref r_323), .unset, .unset] []))
      refine own_st (fun u_ k_ => XS.iload X322.here hx rfl (hb hby at_198) rfl k_) ?_
      show own_Go p e below _ (T322.setTop (mkF m 200 #[.val (.int q), .val (.long ha), .second, .val (.long hb1), .second, .val (.long hc1), .second, .val (.long hd1), .second, .val (.int c9), .val (.int n), .val (.ref b246), .val (.ref r_289), .val (.ref a2_290), .val (.ref r_323), .unset, .unset] [(.int c9)]))
      refine own_st (fun u_ k_ => XS.i2l X322.here hx rfl (hb hby at_200) rfl k_) ?_
      show own_Go p e below _ (T322.setTop (mkF m 201 #[.val (.int q), .val (.long ha), .second, .val (.long hb1), .second, .val (.long hc1), .second, .val (.long hd1), .second, .val (.int c9), .val (.int n), .val (.ref b246), .val (.ref r_289), .val (.ref a2_290), .val (.ref r_323), .unset, .unset] [(.long (c9.toInt64))]))
      refine own_st (X322.ldc2Long hx hown (mvT hZ (own_w hw 87 rfl)) (g := (mkF m 201 #[.val (.int q), .val (.long ha), .second, .val (.long hb1), .second, .val (.long hc1), .second, .val (.long hd1), .second, .val (.int c9), .val (.int n), .val (.ref b246), .val (.ref r_289), .val (.ref a2_290), .val (.ref r_323), .unset, .unset] [(.long (c9.toInt64))])) rfl (hb hby at_201)) ?_
      show own_Go p e below _ (T322.setTop (mkF m 204 #[.val (.int q), .val (.long ha), .second, .val (.long hb1), .second, .val (.long hc1), .second, .val (.long hd1), .second, .val (.int c9), .val (.int n), .val (.ref b246), .val (.ref r_289), .val (.ref a2_290), .val (.ref r_323), .unset, .unset] [(.long (4294967295 : Int64)), (.long (c9.toInt64))]))
      refine own_st (fun u_ k_ => XS.land X322.here hx rfl (hb hby at_204) rfl k_) ?_
      show own_Go p e below _ (T322.setTop (mkF m 205 #[.val (.int q), .val (.long ha), .second, .val (.long hb1), .second, .val (.long hc1), .second, .val (.long hd1), .second, .val (.int c9), .val (.int n), .val (.ref b246), .val (.ref r_289), .val (.ref a2_290), .val (.ref r_323), .unset, .unset] [(.long ((c9.toInt64) &&& (4294967295 : Int64)))]))
      refine own_st (fun u_ k_ => XS.lstore X322.here hx rfl (hb hby at_205) rfl (l' := #[.val (.int q), .val (.long ha), .second, .val (.long hb1), .second, .val (.long hc1), .second, .val (.long hd1), .second, .val (.int c9), .val (.int n), .val (.ref b246), .val (.ref r_289), .val (.ref a2_290), .val (.ref r_323), .val (.long ((c9.toInt64) &&& (4294967295 : Int64))), .second]) rfl k_) ?_
      show own_Go p e below _ (T322.setTop (mkF m 207 #[.val (.int q), .val (.long ha), .second, .val (.long hb1), .second, .val (.long hc1), .second, .val (.long hd1), .second, .val (.int c9), .val (.int n), .val (.ref b246), .val (.ref r_289), .val (.ref a2_290), .val (.ref r_323), .val (.long ((c9.toInt64) &&& (4294967295 : Int64))), .second] []))
      refine own_st (fun u_ k_ => XS.aload X322.here hx rfl (hb hby at_207) rfl rfl k_) ?_
      show own_Go p e below _ (T322.setTop (mkF m 209 #[.val (.int q), .val (.long ha), .second, .val (.long hb1), .second, .val (.long hc1), .second, .val (.long hd1), .second, .val (.int c9), .val (.int n), .val (.ref b246), .val (.ref r_289), .val (.ref a2_290), .val (.ref r_323), .val (.long ((c9.toInt64) &&& (4294967295 : Int64))), .second] [(.ref a2_290)]))
      have F329 := ((Fld.other W309 F300 (Or.inl ne317)).keep K322 nin0)
      have O331 : Old Z n0 T322.heap := O313.keep K322 all0
      have F332 := (F316.keep K322)
      obtain ⟨T330, v330, L330, X330, hQ330, st330⟩ := own_callV X322 hx hZ (y := own_y_345) (z := own_y_345) hown (own_w hw 88 rfl) (own_w hw 89 rfl) (notFace_of_selects (args := #[]) (mvT hZ (own_w hw 91 rfl))) (own_w hw 91 rfl) (own_w hw 90 rfl) (own_w hw 3 rfl) (own_w hw 92 rfl) own_lm_238 (rmC l Z a0 hw [] we hS a2_290 (((((((((0 : Int64) <<< ((8 : Int32) &&& 0x3f).toInt64) ||| (((((c9.toUInt32 >>> ((24 : Int32) &&& 31).toUInt32).toInt32).toInt8.toInt32) &&& (255 : Int32)).toInt64)) <<< ((8 : Int32) &&& 0x3f).toInt64) ||| (((((c9.toUInt32 >>> ((16 : Int32) &&& 31).toUInt32).toInt32).toInt8.toInt32) &&& (255 : Int32)).toInt64)) <<< ((8 : Int32) &&& 0x3f).toInt64) ||| (((((c9.toUInt32 >>> ((8 : Int32) &&& 31).toUInt32).toInt32).toInt8.toInt32) &&& (255 : Int32)).toInt64)) <<< ((8 : Int32) &&& 0x3f).toInt64) ||| (((c9.toInt8.toInt32) &&& (255 : Int32)).toInt64)) T322.heap n0 O331 F329) rfl F332 own_pd_352 (argsL := []) (rest := []) rfl rfl (g := (mkF m 209 #[.val (.int q), .val (.long ha), .second, .val (.long hb1), .second, .val (.long hc1), .second, .val (.long hd1), .second, .val (.int c9), .val (.int n), .val (.ref b246), .val (.ref r_289), .val (.ref a2_290), .val (.ref r_323), .val (.long ((c9.toInt64) &&& (4294967295 : Int64))), .second] [(.ref a2_290)])) rfl (by rw [hml]; rfl) rfl (hb hby at_209) (W := 0) rfl (by decide) (by decide) (by decide) (by decide)
      obtain ⟨rfl, M330, e330⟩ := hQ330
      have N330 := Fr.app N322 M330
      refine own_st (fun u_ k_ => st330 u_ k_) ?_
      show own_Go p e below _ (T330.setTop (mkF m 212 #[.val (.int q), .val (.long ha), .second, .val (.long hb1), .second, .val (.long hc1), .second, .val (.long hd1), .second, .val (.int c9), .val (.int n), .val (.ref b246), .val (.ref r_289), .val (.ref a2_290), .val (.ref r_323), .val (.long ((c9.toInt64) &&& (4294967295 : Int64))), .second] [(.long (((((((((0 : Int64) <<< ((8 : Int32) &&& 0x3f).toInt64) ||| (((((c9.toUInt32 >>> ((24 : Int32) &&& 31).toUInt32).toInt32).toInt8.toInt32) &&& (255 : Int32)).toInt64)) <<< ((8 : Int32) &&& 0x3f).toInt64) ||| (((((c9.toUInt32 >>> ((16 : Int32) &&& 31).toUInt32).toInt32).toInt8.toInt32) &&& (255 : Int32)).toInt64)) <<< ((8 : Int32) &&& 0x3f).toInt64) ||| (((((c9.toUInt32 >>> ((8 : Int32) &&& 31).toUInt32).toInt32).toInt8.toInt32) &&& (255 : Int32)).toInt64)) <<< ((8 : Int32) &&& 0x3f).toInt64) ||| (((c9.toInt8.toInt32) &&& (255 : Int32)).toInt64)))]))
      refine own_st (fun u_ k_ => XS.lload X330.here hx rfl (hb hby at_212) rfl k_) ?_
      show own_Go p e below _ (T330.setTop (mkF m 214 #[.val (.int q), .val (.long ha), .second, .val (.long hb1), .second, .val (.long hc1), .second, .val (.long hd1), .second, .val (.int c9), .val (.int n), .val (.ref b246), .val (.ref r_289), .val (.ref a2_290), .val (.ref r_323), .val (.long ((c9.toInt64) &&& (4294967295 : Int64))), .second] [(.long ((c9.toInt64) &&& (4294967295 : Int64))), (.long (((((((((0 : Int64) <<< ((8 : Int32) &&& 0x3f).toInt64) ||| (((((c9.toUInt32 >>> ((24 : Int32) &&& 31).toUInt32).toInt32).toInt8.toInt32) &&& (255 : Int32)).toInt64)) <<< ((8 : Int32) &&& 0x3f).toInt64) ||| (((((c9.toUInt32 >>> ((16 : Int32) &&& 31).toUInt32).toInt32).toInt8.toInt32) &&& (255 : Int32)).toInt64)) <<< ((8 : Int32) &&& 0x3f).toInt64) ||| (((((c9.toUInt32 >>> ((8 : Int32) &&& 31).toUInt32).toInt32).toInt8.toInt32) &&& (255 : Int32)).toInt64)) <<< ((8 : Int32) &&& 0x3f).toInt64) ||| (((c9.toInt8.toInt32) &&& (255 : Int32)).toInt64)))]))
      refine own_st (fun u_ k_ => XS.lcmp X330.here hx rfl (hb hby at_214) rfl k_) ?_
      show own_Go p e below _ (T330.setTop (mkF m 215 #[.val (.int q), .val (.long ha), .second, .val (.long hb1), .second, .val (.long hc1), .second, .val (.long hd1), .second, .val (.int c9), .val (.int n), .val (.ref b246), .val (.ref r_289), .val (.ref a2_290), .val (.ref r_323), .val (.long ((c9.toInt64) &&& (4294967295 : Int64))), .second] [(.int (lcmpW (((((((((0 : Int64) <<< ((8 : Int32) &&& 0x3f).toInt64) ||| (((((c9.toUInt32 >>> ((24 : Int32) &&& 31).toUInt32).toInt32).toInt8.toInt32) &&& (255 : Int32)).toInt64)) <<< ((8 : Int32) &&& 0x3f).toInt64) ||| (((((c9.toUInt32 >>> ((16 : Int32) &&& 31).toUInt32).toInt32).toInt8.toInt32) &&& (255 : Int32)).toInt64)) <<< ((8 : Int32) &&& 0x3f).toInt64) ||| (((((c9.toUInt32 >>> ((8 : Int32) &&& 31).toUInt32).toInt32).toInt8.toInt32) &&& (255 : Int32)).toInt64)) <<< ((8 : Int32) &&& 0x3f).toInt64) ||| (((c9.toInt8.toInt32) &&& (255 : Int32)).toInt64)) ((c9.toInt64) &&& (4294967295 : Int64))))]))
      refine own_st (fun u_ k_ => XS.ifNo X330.here hx rfl (hb hby at_215) rfl (XT.i0_ne_f (own_cnt c9)) k_) ?_
      show own_Go p e below _ (T330.setTop (mkF m 218 #[.val (.int q), .val (.long ha), .second, .val (.long hb1), .second, .val (.long hc1), .second, .val (.long hd1), .second, .val (.int c9), .val (.int n), .val (.ref b246), .val (.ref r_289), .val (.ref a2_290), .val (.ref r_323), .val (.long ((c9.toInt64) &&& (4294967295 : Int64))), .second] []))
      refine own_st (fun u_ k_ => XS.aload X330.here hx rfl (hb hby at_218) rfl rfl k_) ?_
      show own_Go p e below _ (T330.setTop (mkF m 220 #[.val (.int q), .val (.long ha), .second, .val (.long hb1), .second, .val (.long hc1), .second, .val (.long hd1), .second, .val (.int c9), .val (.int n), .val (.ref b246), .val (.ref r_289), .val (.ref a2_290), .val (.ref r_323), .val (.long ((c9.toInt64) &&& (4294967295 : Int64))), .second] [(.ref r_323)]))
      refine own_st (fun u_ k_ => XS.iconst X330.here hx rfl (hb hby at_220) k_) ?_
      show own_Go p e below _ (T330.setTop (mkF m 221 #[.val (.int q), .val (.long ha), .second, .val (.long hb1), .second, .val (.long hc1), .second, .val (.long hd1), .second, .val (.int c9), .val (.int n), .val (.ref b246), .val (.ref r_289), .val (.ref a2_290), .val (.ref r_323), .val (.long ((c9.toInt64) &&& (4294967295 : Int64))), .second] [(.int (0 : Int32)), (.ref r_323)]))
      refine own_st (fun u_ k_ => XS.lloadN X330.here hx rfl (hb hby at_221) rfl k_) ?_
      show own_Go p e below _ (T330.setTop (mkF m 222 #[.val (.int q), .val (.long ha), .second, .val (.long hb1), .second, .val (.long hc1), .second, .val (.long hd1), .second, .val (.int c9), .val (.int n), .val (.ref b246), .val (.ref r_289), .val (.ref a2_290), .val (.ref r_323), .val (.long ((c9.toInt64) &&& (4294967295 : Int64))), .second] [(.long ha), (.int (0 : Int32)), (.ref r_323)]))
      obtain ⟨T333, v333, L333, X333, hQ333, st333⟩ := own_callS X330 hx hZ (y := own_y_166) hown (own_w hw 93 rfl) (own_w hw 94 rfl) (own_w hw 19 rfl) (own_w hw 95 rfl) own_lm_348 (rmE0 l Z a0 hw [] we hS r_323 kr_324 [(.int ((((ha.toUInt64 >>> ((56 : Int32) &&& 0x3f).toInt64.toUInt64).toInt64).toInt32).toInt8.toInt32)), (.int ((((ha.toUInt64 >>> ((48 : Int32) &&& 0x3f).toInt64.toUInt64).toInt64).toInt32).toInt8.toInt32)), (.int ((((ha.toUInt64 >>> ((40 : Int32) &&& 0x3f).toInt64.toUInt64).toInt64).toInt32).toInt8.toInt32)), (.int ((((ha.toUInt64 >>> ((32 : Int32) &&& 0x3f).toInt64.toUInt64).toInt64).toInt32).toInt8.toInt32)), (.int ((((ha.toUInt64 >>> ((24 : Int32) &&& 0x3f).toInt64.toUInt64).toInt64).toInt32).toInt8.toInt32)), (.int ((((ha.toUInt64 >>> ((16 : Int32) &&& 0x3f).toInt64.toUInt64).toInt64).toInt32).toInt8.toInt32)), (.int ((((ha.toUInt64 >>> ((8 : Int32) &&& 0x3f).toInt64.toUInt64).toInt64).toInt32).toInt8.toInt32)), (.int ((ha.toInt32).toInt8.toInt32)), (.int ((((hb1.toUInt64 >>> ((56 : Int32) &&& 0x3f).toInt64.toUInt64).toInt64).toInt32).toInt8.toInt32)), (.int ((((hb1.toUInt64 >>> ((48 : Int32) &&& 0x3f).toInt64.toUInt64).toInt64).toInt32).toInt8.toInt32)), (.int ((((hb1.toUInt64 >>> ((40 : Int32) &&& 0x3f).toInt64.toUInt64).toInt64).toInt32).toInt8.toInt32)), (.int ((((hb1.toUInt64 >>> ((32 : Int32) &&& 0x3f).toInt64.toUInt64).toInt64).toInt32).toInt8.toInt32)), (.int ((((hb1.toUInt64 >>> ((24 : Int32) &&& 0x3f).toInt64.toUInt64).toInt64).toInt32).toInt8.toInt32)), (.int ((((hb1.toUInt64 >>> ((16 : Int32) &&& 0x3f).toInt64.toUInt64).toInt64).toInt32).toInt8.toInt32)), (.int ((((hb1.toUInt64 >>> ((8 : Int32) &&& 0x3f).toInt64.toUInt64).toInt64).toInt32).toInt8.toInt32)), (.int ((hb1.toInt32).toInt8.toInt32)), (.int ((((hc1.toUInt64 >>> ((56 : Int32) &&& 0x3f).toInt64.toUInt64).toInt64).toInt32).toInt8.toInt32)), (.int ((((hc1.toUInt64 >>> ((48 : Int32) &&& 0x3f).toInt64.toUInt64).toInt64).toInt32).toInt8.toInt32)), (.int ((((hc1.toUInt64 >>> ((40 : Int32) &&& 0x3f).toInt64.toUInt64).toInt64).toInt32).toInt8.toInt32)), (.int ((((hc1.toUInt64 >>> ((32 : Int32) &&& 0x3f).toInt64.toUInt64).toInt64).toInt32).toInt8.toInt32)), (.int ((((hc1.toUInt64 >>> ((24 : Int32) &&& 0x3f).toInt64.toUInt64).toInt64).toInt32).toInt8.toInt32)), (.int ((((hc1.toUInt64 >>> ((16 : Int32) &&& 0x3f).toInt64.toUInt64).toInt64).toInt32).toInt8.toInt32)), (.int ((((hc1.toUInt64 >>> ((8 : Int32) &&& 0x3f).toInt64.toUInt64).toInt64).toInt32).toInt8.toInt32)), (.int ((hc1.toInt32).toInt8.toInt32)), (.int ((((hd1.toUInt64 >>> ((56 : Int32) &&& 0x3f).toInt64.toUInt64).toInt64).toInt32).toInt8.toInt32)), (.int ((((hd1.toUInt64 >>> ((48 : Int32) &&& 0x3f).toInt64.toUInt64).toInt64).toInt32).toInt8.toInt32)), (.int ((((hd1.toUInt64 >>> ((40 : Int32) &&& 0x3f).toInt64.toUInt64).toInt64).toInt32).toInt8.toInt32)), (.int ((((hd1.toUInt64 >>> ((32 : Int32) &&& 0x3f).toInt64.toUInt64).toInt64).toInt32).toInt8.toInt32)), (.int ((((hd1.toUInt64 >>> ((24 : Int32) &&& 0x3f).toInt64.toUInt64).toInt64).toInt32).toInt8.toInt32)), (.int ((((hd1.toUInt64 >>> ((16 : Int32) &&& 0x3f).toInt64.toUInt64).toInt64).toInt32).toInt8.toInt32)), (.int ((((hd1.toUInt64 >>> ((8 : Int32) &&& 0x3f).toInt64.toUInt64).toInt64).toInt32).toInt8.toInt32)), (.int ((hd1.toInt32).toInt8.toInt32))] ha T322.heap n0 O331 F326 rfl rfl rfl rfl rfl rfl rfl rfl) e330 own_pd_353 (argsL := [(.ref r_323), (.int (0 : Int32)), (.long ha)]) (rest := []) rfl rfl (g := (mkF m 222 #[.val (.int q), .val (.long ha), .second, .val (.long hb1), .second, .val (.long hc1), .second, .val (.long hd1), .second, .val (.int c9), .val (.int n), .val (.ref b246), .val (.ref r_289), .val (.ref a2_290), .val (.ref r_323), .val (.long ((c9.toInt64) &&& (4294967295 : Int64))), .second] [(.long ha), (.int (0 : Int32)), (.ref r_323)])) rfl (by rw [hml]; rfl) rfl (hb hby at_222) (W := 0) rfl (by decide) (by decide) (by decide) (by decide)
      obtain ⟨rfl, M333, e333⟩ := hQ333
      have N333 := Fr.app N330 M333
      refine own_st (fun u_ k_ => st333 u_ k_) ?_
      show own_Go p e below _ (T333.setTop (mkF m 225 #[.val (.int q), .val (.long ha), .second, .val (.long hb1), .second, .val (.long hc1), .second, .val (.long hd1), .second, .val (.int c9), .val (.int n), .val (.ref b246), .val (.ref r_289), .val (.ref a2_290), .val (.ref r_323), .val (.long ((c9.toInt64) &&& (4294967295 : Int64))), .second] [(.int (1 : Int32))]))
      refine own_st (fun u_ k_ => XS.ifNo X333.here hx rfl (hb hby at_225) rfl (XT.i0_eq_f (by decide)) k_) ?_
      show own_Go p e below _ (T333.setTop (mkF m 228 #[.val (.int q), .val (.long ha), .second, .val (.long hb1), .second, .val (.long hc1), .second, .val (.long hd1), .second, .val (.int c9), .val (.int n), .val (.ref b246), .val (.ref r_289), .val (.ref a2_290), .val (.ref r_323), .val (.long ((c9.toInt64) &&& (4294967295 : Int64))), .second] []))
      refine own_st (fun u_ k_ => XS.aload X333.here hx rfl (hb hby at_228) rfl rfl k_) ?_
      show own_Go p e below _ (T333.setTop (mkF m 230 #[.val (.int q), .val (.long ha), .second, .val (.long hb1), .second, .val (.long hc1), .second, .val (.long hd1), .second, .val (.int c9), .val (.int n), .val (.ref b246), .val (.ref r_289), .val (.ref a2_290), .val (.ref r_323), .val (.long ((c9.toInt64) &&& (4294967295 : Int64))), .second] [(.ref r_323)]))
      refine own_st (fun u_ k_ => XS.bipush X333.here hx rfl (hb hby at_230) k_) ?_
      show own_Go p e below _ (T333.setTop (mkF m 232 #[.val (.int q), .val (.long ha), .second, .val (.long hb1), .second, .val (.long hc1), .second, .val (.long hd1), .second, .val (.int c9), .val (.int n), .val (.ref b246), .val (.ref r_289), .val (.ref a2_290), .val (.ref r_323), .val (.long ((c9.toInt64) &&& (4294967295 : Int64))), .second] [(.int (8 : Int32)), (.ref r_323)]))
      refine own_st (fun u_ k_ => XS.lloadN X333.here hx rfl (hb hby at_232) rfl k_) ?_
      show own_Go p e below _ (T333.setTop (mkF m 233 #[.val (.int q), .val (.long ha), .second, .val (.long hb1), .second, .val (.long hc1), .second, .val (.long hd1), .second, .val (.int c9), .val (.int n), .val (.ref b246), .val (.ref r_289), .val (.ref a2_290), .val (.ref r_323), .val (.long ((c9.toInt64) &&& (4294967295 : Int64))), .second] [(.long hb1), (.int (8 : Int32)), (.ref r_323)]))
      obtain ⟨T334, v334, L334, X334, hQ334, st334⟩ := own_callS X333 hx hZ (y := own_y_166) hown (own_w hw 93 rfl) (own_w hw 94 rfl) (own_w hw 19 rfl) (own_w hw 95 rfl) own_lm_348 (rmE8 l Z a0 hw [] we hS r_323 kr_324 [(.int ((((ha.toUInt64 >>> ((56 : Int32) &&& 0x3f).toInt64.toUInt64).toInt64).toInt32).toInt8.toInt32)), (.int ((((ha.toUInt64 >>> ((48 : Int32) &&& 0x3f).toInt64.toUInt64).toInt64).toInt32).toInt8.toInt32)), (.int ((((ha.toUInt64 >>> ((40 : Int32) &&& 0x3f).toInt64.toUInt64).toInt64).toInt32).toInt8.toInt32)), (.int ((((ha.toUInt64 >>> ((32 : Int32) &&& 0x3f).toInt64.toUInt64).toInt64).toInt32).toInt8.toInt32)), (.int ((((ha.toUInt64 >>> ((24 : Int32) &&& 0x3f).toInt64.toUInt64).toInt64).toInt32).toInt8.toInt32)), (.int ((((ha.toUInt64 >>> ((16 : Int32) &&& 0x3f).toInt64.toUInt64).toInt64).toInt32).toInt8.toInt32)), (.int ((((ha.toUInt64 >>> ((8 : Int32) &&& 0x3f).toInt64.toUInt64).toInt64).toInt32).toInt8.toInt32)), (.int ((ha.toInt32).toInt8.toInt32)), (.int ((((hb1.toUInt64 >>> ((56 : Int32) &&& 0x3f).toInt64.toUInt64).toInt64).toInt32).toInt8.toInt32)), (.int ((((hb1.toUInt64 >>> ((48 : Int32) &&& 0x3f).toInt64.toUInt64).toInt64).toInt32).toInt8.toInt32)), (.int ((((hb1.toUInt64 >>> ((40 : Int32) &&& 0x3f).toInt64.toUInt64).toInt64).toInt32).toInt8.toInt32)), (.int ((((hb1.toUInt64 >>> ((32 : Int32) &&& 0x3f).toInt64.toUInt64).toInt64).toInt32).toInt8.toInt32)), (.int ((((hb1.toUInt64 >>> ((24 : Int32) &&& 0x3f).toInt64.toUInt64).toInt64).toInt32).toInt8.toInt32)), (.int ((((hb1.toUInt64 >>> ((16 : Int32) &&& 0x3f).toInt64.toUInt64).toInt64).toInt32).toInt8.toInt32)), (.int ((((hb1.toUInt64 >>> ((8 : Int32) &&& 0x3f).toInt64.toUInt64).toInt64).toInt32).toInt8.toInt32)), (.int ((hb1.toInt32).toInt8.toInt32)), (.int ((((hc1.toUInt64 >>> ((56 : Int32) &&& 0x3f).toInt64.toUInt64).toInt64).toInt32).toInt8.toInt32)), (.int ((((hc1.toUInt64 >>> ((48 : Int32) &&& 0x3f).toInt64.toUInt64).toInt64).toInt32).toInt8.toInt32)), (.int ((((hc1.toUInt64 >>> ((40 : Int32) &&& 0x3f).toInt64.toUInt64).toInt64).toInt32).toInt8.toInt32)), (.int ((((hc1.toUInt64 >>> ((32 : Int32) &&& 0x3f).toInt64.toUInt64).toInt64).toInt32).toInt8.toInt32)), (.int ((((hc1.toUInt64 >>> ((24 : Int32) &&& 0x3f).toInt64.toUInt64).toInt64).toInt32).toInt8.toInt32)), (.int ((((hc1.toUInt64 >>> ((16 : Int32) &&& 0x3f).toInt64.toUInt64).toInt64).toInt32).toInt8.toInt32)), (.int ((((hc1.toUInt64 >>> ((8 : Int32) &&& 0x3f).toInt64.toUInt64).toInt64).toInt32).toInt8.toInt32)), (.int ((hc1.toInt32).toInt8.toInt32)), (.int ((((hd1.toUInt64 >>> ((56 : Int32) &&& 0x3f).toInt64.toUInt64).toInt64).toInt32).toInt8.toInt32)), (.int ((((hd1.toUInt64 >>> ((48 : Int32) &&& 0x3f).toInt64.toUInt64).toInt64).toInt32).toInt8.toInt32)), (.int ((((hd1.toUInt64 >>> ((40 : Int32) &&& 0x3f).toInt64.toUInt64).toInt64).toInt32).toInt8.toInt32)), (.int ((((hd1.toUInt64 >>> ((32 : Int32) &&& 0x3f).toInt64.toUInt64).toInt64).toInt32).toInt8.toInt32)), (.int ((((hd1.toUInt64 >>> ((24 : Int32) &&& 0x3f).toInt64.toUInt64).toInt64).toInt32).toInt8.toInt32)), (.int ((((hd1.toUInt64 >>> ((16 : Int32) &&& 0x3f).toInt64.toUInt64).toInt64).toInt32).toInt8.toInt32)), (.int ((((hd1.toUInt64 >>> ((8 : Int32) &&& 0x3f).toInt64.toUInt64).toInt64).toInt32).toInt8.toInt32)), (.int ((hd1.toInt32).toInt8.toInt32))] hb1 T322.heap n0 O331 F326 rfl rfl rfl rfl rfl rfl rfl rfl) e333 own_pd_353 (argsL := [(.ref r_323), (.int (8 : Int32)), (.long hb1)]) (rest := []) rfl rfl (g := (mkF m 233 #[.val (.int q), .val (.long ha), .second, .val (.long hb1), .second, .val (.long hc1), .second, .val (.long hd1), .second, .val (.int c9), .val (.int n), .val (.ref b246), .val (.ref r_289), .val (.ref a2_290), .val (.ref r_323), .val (.long ((c9.toInt64) &&& (4294967295 : Int64))), .second] [(.long hb1), (.int (8 : Int32)), (.ref r_323)])) rfl (by rw [hml]; rfl) rfl (hb hby at_233) (W := 0) rfl (by decide) (by decide) (by decide) (by decide)
      obtain ⟨rfl, M334, e334⟩ := hQ334
      have N334 := Fr.app N333 M334
      refine own_st (fun u_ k_ => st334 u_ k_) ?_
      show own_Go p e below _ (T334.setTop (mkF m 236 #[.val (.int q), .val (.long ha), .second, .val (.long hb1), .second, .val (.long hc1), .second, .val (.long hd1), .second, .val (.int c9), .val (.int n), .val (.ref b246), .val (.ref r_289), .val (.ref a2_290), .val (.ref r_323), .val (.long ((c9.toInt64) &&& (4294967295 : Int64))), .second] [(.int (1 : Int32))]))
      refine own_st (fun u_ k_ => XS.ifNo X334.here hx rfl (hb hby at_236) rfl (XT.i0_eq_f (by decide)) k_) ?_
      show own_Go p e below _ (T334.setTop (mkF m 239 #[.val (.int q), .val (.long ha), .second, .val (.long hb1), .second, .val (.long hc1), .second, .val (.long hd1), .second, .val (.int c9), .val (.int n), .val (.ref b246), .val (.ref r_289), .val (.ref a2_290), .val (.ref r_323), .val (.long ((c9.toInt64) &&& (4294967295 : Int64))), .second] []))
      refine own_st (fun u_ k_ => XS.aload X334.here hx rfl (hb hby at_239) rfl rfl k_) ?_
      show own_Go p e below _ (T334.setTop (mkF m 241 #[.val (.int q), .val (.long ha), .second, .val (.long hb1), .second, .val (.long hc1), .second, .val (.long hd1), .second, .val (.int c9), .val (.int n), .val (.ref b246), .val (.ref r_289), .val (.ref a2_290), .val (.ref r_323), .val (.long ((c9.toInt64) &&& (4294967295 : Int64))), .second] [(.ref r_323)]))
      refine own_st (fun u_ k_ => XS.bipush X334.here hx rfl (hb hby at_241) k_) ?_
      show own_Go p e below _ (T334.setTop (mkF m 243 #[.val (.int q), .val (.long ha), .second, .val (.long hb1), .second, .val (.long hc1), .second, .val (.long hd1), .second, .val (.int c9), .val (.int n), .val (.ref b246), .val (.ref r_289), .val (.ref a2_290), .val (.ref r_323), .val (.long ((c9.toInt64) &&& (4294967295 : Int64))), .second] [(.int (16 : Int32)), (.ref r_323)]))
      refine own_st (fun u_ k_ => XS.lload X334.here hx rfl (hb hby at_243) rfl k_) ?_
      show own_Go p e below _ (T334.setTop (mkF m 245 #[.val (.int q), .val (.long ha), .second, .val (.long hb1), .second, .val (.long hc1), .second, .val (.long hd1), .second, .val (.int c9), .val (.int n), .val (.ref b246), .val (.ref r_289), .val (.ref a2_290), .val (.ref r_323), .val (.long ((c9.toInt64) &&& (4294967295 : Int64))), .second] [(.long hc1), (.int (16 : Int32)), (.ref r_323)]))
      obtain ⟨T335, v335, L335, X335, hQ335, st335⟩ := own_callS X334 hx hZ (y := own_y_166) hown (own_w hw 93 rfl) (own_w hw 94 rfl) (own_w hw 19 rfl) (own_w hw 95 rfl) own_lm_348 (rmE16 l Z a0 hw [] we hS r_323 kr_324 [(.int ((((ha.toUInt64 >>> ((56 : Int32) &&& 0x3f).toInt64.toUInt64).toInt64).toInt32).toInt8.toInt32)), (.int ((((ha.toUInt64 >>> ((48 : Int32) &&& 0x3f).toInt64.toUInt64).toInt64).toInt32).toInt8.toInt32)), (.int ((((ha.toUInt64 >>> ((40 : Int32) &&& 0x3f).toInt64.toUInt64).toInt64).toInt32).toInt8.toInt32)), (.int ((((ha.toUInt64 >>> ((32 : Int32) &&& 0x3f).toInt64.toUInt64).toInt64).toInt32).toInt8.toInt32)), (.int ((((ha.toUInt64 >>> ((24 : Int32) &&& 0x3f).toInt64.toUInt64).toInt64).toInt32).toInt8.toInt32)), (.int ((((ha.toUInt64 >>> ((16 : Int32) &&& 0x3f).toInt64.toUInt64).toInt64).toInt32).toInt8.toInt32)), (.int ((((ha.toUInt64 >>> ((8 : Int32) &&& 0x3f).toInt64.toUInt64).toInt64).toInt32).toInt8.toInt32)), (.int ((ha.toInt32).toInt8.toInt32)), (.int ((((hb1.toUInt64 >>> ((56 : Int32) &&& 0x3f).toInt64.toUInt64).toInt64).toInt32).toInt8.toInt32)), (.int ((((hb1.toUInt64 >>> ((48 : Int32) &&& 0x3f).toInt64.toUInt64).toInt64).toInt32).toInt8.toInt32)), (.int ((((hb1.toUInt64 >>> ((40 : Int32) &&& 0x3f).toInt64.toUInt64).toInt64).toInt32).toInt8.toInt32)), (.int ((((hb1.toUInt64 >>> ((32 : Int32) &&& 0x3f).toInt64.toUInt64).toInt64).toInt32).toInt8.toInt32)), (.int ((((hb1.toUInt64 >>> ((24 : Int32) &&& 0x3f).toInt64.toUInt64).toInt64).toInt32).toInt8.toInt32)), (.int ((((hb1.toUInt64 >>> ((16 : Int32) &&& 0x3f).toInt64.toUInt64).toInt64).toInt32).toInt8.toInt32)), (.int ((((hb1.toUInt64 >>> ((8 : Int32) &&& 0x3f).toInt64.toUInt64).toInt64).toInt32).toInt8.toInt32)), (.int ((hb1.toInt32).toInt8.toInt32)), (.int ((((hc1.toUInt64 >>> ((56 : Int32) &&& 0x3f).toInt64.toUInt64).toInt64).toInt32).toInt8.toInt32)), (.int ((((hc1.toUInt64 >>> ((48 : Int32) &&& 0x3f).toInt64.toUInt64).toInt64).toInt32).toInt8.toInt32)), (.int ((((hc1.toUInt64 >>> ((40 : Int32) &&& 0x3f).toInt64.toUInt64).toInt64).toInt32).toInt8.toInt32)), (.int ((((hc1.toUInt64 >>> ((32 : Int32) &&& 0x3f).toInt64.toUInt64).toInt64).toInt32).toInt8.toInt32)), (.int ((((hc1.toUInt64 >>> ((24 : Int32) &&& 0x3f).toInt64.toUInt64).toInt64).toInt32).toInt8.toInt32)), (.int ((((hc1.toUInt64 >>> ((16 : Int32) &&& 0x3f).toInt64.toUInt64).toInt64).toInt32).toInt8.toInt32)), (.int ((((hc1.toUInt64 >>> ((8 : Int32) &&& 0x3f).toInt64.toUInt64).toInt64).toInt32).toInt8.toInt32)), (.int ((hc1.toInt32).toInt8.toInt32)), (.int ((((hd1.toUInt64 >>> ((56 : Int32) &&& 0x3f).toInt64.toUInt64).toInt64).toInt32).toInt8.toInt32)), (.int ((((hd1.toUInt64 >>> ((48 : Int32) &&& 0x3f).toInt64.toUInt64).toInt64).toInt32).toInt8.toInt32)), (.int ((((hd1.toUInt64 >>> ((40 : Int32) &&& 0x3f).toInt64.toUInt64).toInt64).toInt32).toInt8.toInt32)), (.int ((((hd1.toUInt64 >>> ((32 : Int32) &&& 0x3f).toInt64.toUInt64).toInt64).toInt32).toInt8.toInt32)), (.int ((((hd1.toUInt64 >>> ((24 : Int32) &&& 0x3f).toInt64.toUInt64).toInt64).toInt32).toInt8.toInt32)), (.int ((((hd1.toUInt64 >>> ((16 : Int32) &&& 0x3f).toInt64.toUInt64).toInt64).toInt32).toInt8.toInt32)), (.int ((((hd1.toUInt64 >>> ((8 : Int32) &&& 0x3f).toInt64.toUInt64).toInt64).toInt32).toInt8.toInt32)), (.int ((hd1.toInt32).toInt8.toInt32))] hc1 T322.heap n0 O331 F326 rfl rfl rfl rfl rfl rfl rfl rfl) e334 own_pd_353 (argsL := [(.ref r_323), (.int (16 : Int32)), (.long hc1)]) (rest := []) rfl rfl (g := (mkF m 245 #[.val (.int q), .val (.long ha), .second, .val (.long hb1), .second, .val (.long hc1), .second, .val (.long hd1), .second, .val (.int c9), .val (.int n), .val (.ref b246), .val (.ref r_289), .val (.ref a2_290), .val (.ref r_323), .val (.long ((c9.toInt64) &&& (4294967295 : Int64))), .second] [(.long hc1), (.int (16 : Int32)), (.ref r_323)])) rfl (by rw [hml]; rfl) rfl (hb hby at_245) (W := 0) rfl (by decide) (by decide) (by decide) (by decide)
      obtain ⟨rfl, M335, e335⟩ := hQ335
      have N335 := Fr.app N334 M335
      refine own_st (fun u_ k_ => st335 u_ k_) ?_
      show own_Go p e below _ (T335.setTop (mkF m 248 #[.val (.int q), .val (.long ha), .second, .val (.long hb1), .second, .val (.long hc1), .second, .val (.long hd1), .second, .val (.int c9), .val (.int n), .val (.ref b246), .val (.ref r_289), .val (.ref a2_290), .val (.ref r_323), .val (.long ((c9.toInt64) &&& (4294967295 : Int64))), .second] [(.int (1 : Int32))]))
      refine own_st (fun u_ k_ => XS.ifNo X335.here hx rfl (hb hby at_248) rfl (XT.i0_eq_f (by decide)) k_) ?_
      show own_Go p e below _ (T335.setTop (mkF m 251 #[.val (.int q), .val (.long ha), .second, .val (.long hb1), .second, .val (.long hc1), .second, .val (.long hd1), .second, .val (.int c9), .val (.int n), .val (.ref b246), .val (.ref r_289), .val (.ref a2_290), .val (.ref r_323), .val (.long ((c9.toInt64) &&& (4294967295 : Int64))), .second] []))
      refine own_st (fun u_ k_ => XS.aload X335.here hx rfl (hb hby at_251) rfl rfl k_) ?_
      show own_Go p e below _ (T335.setTop (mkF m 253 #[.val (.int q), .val (.long ha), .second, .val (.long hb1), .second, .val (.long hc1), .second, .val (.long hd1), .second, .val (.int c9), .val (.int n), .val (.ref b246), .val (.ref r_289), .val (.ref a2_290), .val (.ref r_323), .val (.long ((c9.toInt64) &&& (4294967295 : Int64))), .second] [(.ref r_323)]))
      refine own_st (fun u_ k_ => XS.bipush X335.here hx rfl (hb hby at_253) k_) ?_
      show own_Go p e below _ (T335.setTop (mkF m 255 #[.val (.int q), .val (.long ha), .second, .val (.long hb1), .second, .val (.long hc1), .second, .val (.long hd1), .second, .val (.int c9), .val (.int n), .val (.ref b246), .val (.ref r_289), .val (.ref a2_290), .val (.ref r_323), .val (.long ((c9.toInt64) &&& (4294967295 : Int64))), .second] [(.int (24 : Int32)), (.ref r_323)]))
      refine own_st (fun u_ k_ => XS.lload X335.here hx rfl (hb hby at_255) rfl k_) ?_
      show own_Go p e below _ (T335.setTop (mkF m 257 #[.val (.int q), .val (.long ha), .second, .val (.long hb1), .second, .val (.long hc1), .second, .val (.long hd1), .second, .val (.int c9), .val (.int n), .val (.ref b246), .val (.ref r_289), .val (.ref a2_290), .val (.ref r_323), .val (.long ((c9.toInt64) &&& (4294967295 : Int64))), .second] [(.long hd1), (.int (24 : Int32)), (.ref r_323)]))
      obtain ⟨T336, v336, L336, X336, hQ336, st336⟩ := own_callS X335 hx hZ (y := own_y_166) hown (own_w hw 93 rfl) (own_w hw 94 rfl) (own_w hw 19 rfl) (own_w hw 95 rfl) own_lm_348 (rmE24 l Z a0 hw [] we hS r_323 kr_324 [(.int ((((ha.toUInt64 >>> ((56 : Int32) &&& 0x3f).toInt64.toUInt64).toInt64).toInt32).toInt8.toInt32)), (.int ((((ha.toUInt64 >>> ((48 : Int32) &&& 0x3f).toInt64.toUInt64).toInt64).toInt32).toInt8.toInt32)), (.int ((((ha.toUInt64 >>> ((40 : Int32) &&& 0x3f).toInt64.toUInt64).toInt64).toInt32).toInt8.toInt32)), (.int ((((ha.toUInt64 >>> ((32 : Int32) &&& 0x3f).toInt64.toUInt64).toInt64).toInt32).toInt8.toInt32)), (.int ((((ha.toUInt64 >>> ((24 : Int32) &&& 0x3f).toInt64.toUInt64).toInt64).toInt32).toInt8.toInt32)), (.int ((((ha.toUInt64 >>> ((16 : Int32) &&& 0x3f).toInt64.toUInt64).toInt64).toInt32).toInt8.toInt32)), (.int ((((ha.toUInt64 >>> ((8 : Int32) &&& 0x3f).toInt64.toUInt64).toInt64).toInt32).toInt8.toInt32)), (.int ((ha.toInt32).toInt8.toInt32)), (.int ((((hb1.toUInt64 >>> ((56 : Int32) &&& 0x3f).toInt64.toUInt64).toInt64).toInt32).toInt8.toInt32)), (.int ((((hb1.toUInt64 >>> ((48 : Int32) &&& 0x3f).toInt64.toUInt64).toInt64).toInt32).toInt8.toInt32)), (.int ((((hb1.toUInt64 >>> ((40 : Int32) &&& 0x3f).toInt64.toUInt64).toInt64).toInt32).toInt8.toInt32)), (.int ((((hb1.toUInt64 >>> ((32 : Int32) &&& 0x3f).toInt64.toUInt64).toInt64).toInt32).toInt8.toInt32)), (.int ((((hb1.toUInt64 >>> ((24 : Int32) &&& 0x3f).toInt64.toUInt64).toInt64).toInt32).toInt8.toInt32)), (.int ((((hb1.toUInt64 >>> ((16 : Int32) &&& 0x3f).toInt64.toUInt64).toInt64).toInt32).toInt8.toInt32)), (.int ((((hb1.toUInt64 >>> ((8 : Int32) &&& 0x3f).toInt64.toUInt64).toInt64).toInt32).toInt8.toInt32)), (.int ((hb1.toInt32).toInt8.toInt32)), (.int ((((hc1.toUInt64 >>> ((56 : Int32) &&& 0x3f).toInt64.toUInt64).toInt64).toInt32).toInt8.toInt32)), (.int ((((hc1.toUInt64 >>> ((48 : Int32) &&& 0x3f).toInt64.toUInt64).toInt64).toInt32).toInt8.toInt32)), (.int ((((hc1.toUInt64 >>> ((40 : Int32) &&& 0x3f).toInt64.toUInt64).toInt64).toInt32).toInt8.toInt32)), (.int ((((hc1.toUInt64 >>> ((32 : Int32) &&& 0x3f).toInt64.toUInt64).toInt64).toInt32).toInt8.toInt32)), (.int ((((hc1.toUInt64 >>> ((24 : Int32) &&& 0x3f).toInt64.toUInt64).toInt64).toInt32).toInt8.toInt32)), (.int ((((hc1.toUInt64 >>> ((16 : Int32) &&& 0x3f).toInt64.toUInt64).toInt64).toInt32).toInt8.toInt32)), (.int ((((hc1.toUInt64 >>> ((8 : Int32) &&& 0x3f).toInt64.toUInt64).toInt64).toInt32).toInt8.toInt32)), (.int ((hc1.toInt32).toInt8.toInt32)), (.int ((((hd1.toUInt64 >>> ((56 : Int32) &&& 0x3f).toInt64.toUInt64).toInt64).toInt32).toInt8.toInt32)), (.int ((((hd1.toUInt64 >>> ((48 : Int32) &&& 0x3f).toInt64.toUInt64).toInt64).toInt32).toInt8.toInt32)), (.int ((((hd1.toUInt64 >>> ((40 : Int32) &&& 0x3f).toInt64.toUInt64).toInt64).toInt32).toInt8.toInt32)), (.int ((((hd1.toUInt64 >>> ((32 : Int32) &&& 0x3f).toInt64.toUInt64).toInt64).toInt32).toInt8.toInt32)), (.int ((((hd1.toUInt64 >>> ((24 : Int32) &&& 0x3f).toInt64.toUInt64).toInt64).toInt32).toInt8.toInt32)), (.int ((((hd1.toUInt64 >>> ((16 : Int32) &&& 0x3f).toInt64.toUInt64).toInt64).toInt32).toInt8.toInt32)), (.int ((((hd1.toUInt64 >>> ((8 : Int32) &&& 0x3f).toInt64.toUInt64).toInt64).toInt32).toInt8.toInt32)), (.int ((hd1.toInt32).toInt8.toInt32))] hd1 T322.heap n0 O331 F326 rfl rfl rfl rfl rfl rfl rfl rfl) e335 own_pd_353 (argsL := [(.ref r_323), (.int (24 : Int32)), (.long hd1)]) (rest := []) rfl rfl (g := (mkF m 257 #[.val (.int q), .val (.long ha), .second, .val (.long hb1), .second, .val (.long hc1), .second, .val (.long hd1), .second, .val (.int c9), .val (.int n), .val (.ref b246), .val (.ref r_289), .val (.ref a2_290), .val (.ref r_323), .val (.long ((c9.toInt64) &&& (4294967295 : Int64))), .second] [(.long hd1), (.int (24 : Int32)), (.ref r_323)])) rfl (by rw [hml]; rfl) rfl (hb hby at_257) (W := 0) rfl (by decide) (by decide) (by decide) (by decide)
      obtain ⟨rfl, M336, e336⟩ := hQ336
      have N336 := Fr.app N335 M336
      refine own_st (fun u_ k_ => st336 u_ k_) ?_
      show own_Go p e below _ (T336.setTop (mkF m 260 #[.val (.int q), .val (.long ha), .second, .val (.long hb1), .second, .val (.long hc1), .second, .val (.long hd1), .second, .val (.int c9), .val (.int n), .val (.ref b246), .val (.ref r_289), .val (.ref a2_290), .val (.ref r_323), .val (.long ((c9.toInt64) &&& (4294967295 : Int64))), .second] [(.int (1 : Int32))]))
      refine own_st (fun u_ k_ => XS.ifNo X336.here hx rfl (hb hby at_260) rfl (XT.i0_eq_f (by decide)) k_) ?_
      show own_Go p e below _ (T336.setTop (mkF m 263 #[.val (.int q), .val (.long ha), .second, .val (.long hb1), .second, .val (.long hc1), .second, .val (.long hd1), .second, .val (.int c9), .val (.int n), .val (.ref b246), .val (.ref r_289), .val (.ref a2_290), .val (.ref r_323), .val (.long ((c9.toInt64) &&& (4294967295 : Int64))), .second] []))
      refine own_st (fun u_ k_ => XS.iconst X336.here hx rfl (hb hby at_263) k_) ?_
      show own_Go p e below _ (T336.setTop (mkF m 264 #[.val (.int q), .val (.long ha), .second, .val (.long hb1), .second, .val (.long hc1), .second, .val (.long hd1), .second, .val (.int c9), .val (.int n), .val (.ref b246), .val (.ref r_289), .val (.ref a2_290), .val (.ref r_323), .val (.long ((c9.toInt64) &&& (4294967295 : Int64))), .second] [(.int (1 : Int32))]))
      refine own_st (fun u_ k_ => XS.goto X336.here hx rfl (pc0 := 264) (pc' := 268) rfl (hb hby at_264) (by decide) (by decide) k_) ?_
      show own_Go p e below _ (T336.setTop (mkF m 268 #[.val (.int q), .val (.long ha), .second, .val (.long hb1), .second, .val (.long hc1), .second, .val (.long hd1), .second, .val (.int c9), .val (.int n), .val (.ref b246), .val (.ref r_289), .val (.ref a2_290), .val (.ref r_323), .val (.long ((c9.toInt64) &&& (4294967295 : Int64))), .second] [(.int (1 : Int32))]))
      have K337 : Keep h0 h246 [] := (Keep.refl h0 []).ext E246
      have z339 : h0.size ≤ b246 := Nat.le_trans (Nat.le_refl _) (Nat.le_of_eq g246.symm)
      have K338 : Keep h0 T255.heap [] := K337.trans K255 (allS (Or.inr z339) all0)
      have K340 : Keep h0 T258.heap [] := K338.trans K258 (allS (Or.inr z339) all0)
      have K341 : Keep h0 T261.heap [] := K340.trans K261 (allS (Or.inr z339) all0)
      have K342 : Keep h0 T264.heap [] := K341.trans K264 (allS (Or.inr z339) all0)
      have K343 : Keep h0 h268 [] := K342.wr W268 (Or.inr z339)
      have K344 : Keep h0 h270 [] := K343.wr W270 (Or.inr z339)
      have K345 : Keep h0 h272 [] := K344.wr W272 (Or.inr z339)
      have K346 : Keep h0 h274 [] := K345.wr W274 (Or.inr z339)
      have K347 : Keep h0 h276 [] := K346.wr W276 (Or.inr z339)
      have K348 : Keep h0 h280 [] := K347.wr W280 (Or.inr z339)
      have K349 : Keep h0 T281.heap [] := K348.trans K281 all0
      have K350 : Keep h0 h309 [] := K349.wr W309 (Or.inr z339)
      have K351 : Keep h0 T322.heap [] := K350.trans K322 all0
      exact own_retX X336 hx hlk hret rfl (Or.inl ⟨rfl, by simp, _, rfl⟩) (hb hby at_268) (by decide) (by decide) (show Qrm0 Z we q ha hb1 hc1 hd1 c9 h0 n0 (some (.int (1 : Int32))) T336.heap _ from (by rw [e336]; exact ⟨rfl, N336, K351⟩))
    · refine own_st (fun u_ k_ => XS.icmpYes X276.here hx rfl (pc0 := 107) (pc' := 122) rfl (hb hby at_107) rfl (XT.ii_le_t hc278) (by decide) (by decide) k_) ?_
      show own_Go p e below _ (T276.setTop (mkF m 122 #[.val (.int q), .val (.long ha), .second, .val (.long hb1), .second, .val (.long hc1), .second, .val (.long hd1), .second, .val (.int c9), .val (.int n), .val (.ref b246), .unset, .unset, .unset, .unset, .unset] []))
      refine own_st (fun u_ k_ => XS.aload X276.here hx rfl (hb hby at_122) rfl rfl k_) ?_
      show own_Go p e below _ (T276.setTop (mkF m 124 #[.val (.int q), .val (.long ha), .second, .val (.long hb1), .second, .val (.long hc1), .second, .val (.long hd1), .second, .val (.int c9), .val (.int n), .val (.ref b246), .unset, .unset, .unset, .unset, .unset] [(.ref b246)]))
      have O353 : Old Z n0 T264.heap := O265.keep K264 (allS g254 all0)
      have O354 : Old Z n0 h268 := O353.wr W268 g254
      have O355 : Old Z n0 h270 := O354.wr W270 g254
      have O356 : Old Z n0 h272 := O355.wr W272 g254
      have O357 : Old Z n0 h274 := O356.wr W274 g254
      have O358 : Old Z n0 h276 := O357.wr W276 g254
      obtain ⟨T352, v352, L352, X352, hQ352, st352⟩ := own_callS X276 hx hZ (y := own_y_325) hown (own_w hw 1 rfl) (own_w hw 2 rfl) (own_w hw 3 rfl) (own_w hw 4 rfl) own_lm_238 (rmAf l Z a0 hw [] we hS b246 k246 n ([(.int ((((ha.toUInt64 >>> ((56 : Int32) &&& 0x3f).toInt64.toUInt64).toInt64).toInt32).toInt8.toInt32)), (.int ((((ha.toUInt64 >>> ((48 : Int32) &&& 0x3f).toInt64.toUInt64).toInt64).toInt32).toInt8.toInt32)), (.int ((((ha.toUInt64 >>> ((40 : Int32) &&& 0x3f).toInt64.toUInt64).toInt64).toInt32).toInt8.toInt32)), (.int ((((ha.toUInt64 >>> ((32 : Int32) &&& 0x3f).toInt64.toUInt64).toInt64).toInt32).toInt8.toInt32)), (.int ((((ha.toUInt64 >>> ((24 : Int32) &&& 0x3f).toInt64.toUInt64).toInt64).toInt32).toInt8.toInt32)), (.int ((((ha.toUInt64 >>> ((16 : Int32) &&& 0x3f).toInt64.toUInt64).toInt64).toInt32).toInt8.toInt32)), (.int ((((ha.toUInt64 >>> ((8 : Int32) &&& 0x3f).toInt64.toUInt64).toInt64).toInt32).toInt8.toInt32)), (.int ((ha.toInt32).toInt8.toInt32)), (.int ((((hb1.toUInt64 >>> ((56 : Int32) &&& 0x3f).toInt64.toUInt64).toInt64).toInt32).toInt8.toInt32)), (.int ((((hb1.toUInt64 >>> ((48 : Int32) &&& 0x3f).toInt64.toUInt64).toInt64).toInt32).toInt8.toInt32)), (.int ((((hb1.toUInt64 >>> ((40 : Int32) &&& 0x3f).toInt64.toUInt64).toInt64).toInt32).toInt8.toInt32)), (.int ((((hb1.toUInt64 >>> ((32 : Int32) &&& 0x3f).toInt64.toUInt64).toInt64).toInt32).toInt8.toInt32)), (.int ((((hb1.toUInt64 >>> ((24 : Int32) &&& 0x3f).toInt64.toUInt64).toInt64).toInt32).toInt8.toInt32)), (.int ((((hb1.toUInt64 >>> ((16 : Int32) &&& 0x3f).toInt64.toUInt64).toInt64).toInt32).toInt8.toInt32)), (.int ((((hb1.toUInt64 >>> ((8 : Int32) &&& 0x3f).toInt64.toUInt64).toInt64).toInt32).toInt8.toInt32)), (.int ((hb1.toInt32).toInt8.toInt32)), (.int ((((hc1.toUInt64 >>> ((56 : Int32) &&& 0x3f).toInt64.toUInt64).toInt64).toInt32).toInt8.toInt32)), (.int ((((hc1.toUInt64 >>> ((48 : Int32) &&& 0x3f).toInt64.toUInt64).toInt64).toInt32).toInt8.toInt32)), (.int ((((hc1.toUInt64 >>> ((40 : Int32) &&& 0x3f).toInt64.toUInt64).toInt64).toInt32).toInt8.toInt32)), (.int ((((hc1.toUInt64 >>> ((32 : Int32) &&& 0x3f).toInt64.toUInt64).toInt64).toInt32).toInt8.toInt32)), (.int ((((hc1.toUInt64 >>> ((24 : Int32) &&& 0x3f).toInt64.toUInt64).toInt64).toInt32).toInt8.toInt32)), (.int ((((hc1.toUInt64 >>> ((16 : Int32) &&& 0x3f).toInt64.toUInt64).toInt64).toInt32).toInt8.toInt32)), (.int ((((hc1.toUInt64 >>> ((8 : Int32) &&& 0x3f).toInt64.toUInt64).toInt64).toInt32).toInt8.toInt32)), (.int ((hc1.toInt32).toInt8.toInt32)), (.int ((((hd1.toUInt64 >>> ((56 : Int32) &&& 0x3f).toInt64.toUInt64).toInt64).toInt32).toInt8.toInt32)), (.int ((((hd1.toUInt64 >>> ((48 : Int32) &&& 0x3f).toInt64.toUInt64).toInt64).toInt32).toInt8.toInt32)), (.int ((((hd1.toUInt64 >>> ((40 : Int32) &&& 0x3f).toInt64.toUInt64).toInt64).toInt32).toInt8.toInt32)), (.int ((((hd1.toUInt64 >>> ((32 : Int32) &&& 0x3f).toInt64.toUInt64).toInt64).toInt32).toInt8.toInt32)), (.int ((((hd1.toUInt64 >>> ((24 : Int32) &&& 0x3f).toInt64.toUInt64).toInt64).toInt32).toInt8.toInt32)), (.int ((((hd1.toUInt64 >>> ((16 : Int32) &&& 0x3f).toInt64.toUInt64).toInt64).toInt32).toInt8.toInt32)), (.int ((((hd1.toUInt64 >>> ((8 : Int32) &&& 0x3f).toInt64.toUInt64).toInt64).toInt32).toInt8.toInt32)), (.int ((hd1.toInt32).toInt8.toInt32)), (.int ((q >>> ((8 : Int32) &&& 31)).toInt8.toInt32)), (.int (((c9.toUInt32 >>> ((24 : Int32) &&& 31).toUInt32).toInt32).toInt8.toInt32)), (.int (((c9.toUInt32 >>> ((16 : Int32) &&& 31).toUInt32).toInt32).toInt8.toInt32)), (.int (((c9.toUInt32 >>> ((8 : Int32) &&& 31).toUInt32).toInt32).toInt8.toInt32)), (.int (c9.toInt8.toInt32))] ++ List.replicate 27 (.int (0 : Int32))) (((c9.toUInt32 >>> ((24 : Int32) &&& 31).toUInt32).toInt32).toInt8.toInt32) (((c9.toUInt32 >>> ((16 : Int32) &&& 31).toUInt32).toInt32).toInt8.toInt32) (((c9.toUInt32 >>> ((8 : Int32) &&& 31).toUInt32).toInt32).toInt8.toInt32) (c9.toInt8.toInt32) h276 n0 O358 V277 hc247 rfl rfl rfl rfl) e276 own_pd_346 (argsL := [(.ref b246)]) (rest := []) rfl rfl (g := (mkF m 124 #[.val (.int q), .val (.long ha), .second, .val (.long hb1), .second, .val (.long hc1), .second, .val (.long hd1), .second, .val (.int c9), .val (.int n), .val (.ref b246), .unset, .unset, .unset, .unset, .unset] [(.ref b246)])) rfl (by rw [hml]; rfl) rfl (hb hby at_124) (W := 0) rfl (by decide) (by decide) (by decide) (by decide)
      obtain ⟨r_359, a2_360, r3_361, k3_362, rfl, M352, K352, z363, z364, z365, F366, F367, F368, F369, F370, F371, F372⟩ := hQ352
      have N352 := Fr.app N276 M352
      refine own_st (fun u_ k_ => st352 u_ k_) ?_
      show own_Go p e below _ (T352.setTop (mkF m 127 #[.val (.int q), .val (.long ha), .second, .val (.long hb1), .second, .val (.long hc1), .second, .val (.long hd1), .second, .val (.int c9), .val (.int n), .val (.ref b246), .unset, .unset, .unset, .unset, .unset] [(.ref r_359)]))
      refine own_st (fun u_ k_ => XS.astore X352.here hx rfl (hb hby at_127) rfl rfl (l' := #[.val (.int q), .val (.long ha), .second, .val (.long hb1), .second, .val (.long hc1), .second, .val (.long hd1), .second, .val (.int c9), .val (.int n), .val (.ref b246), .val (.ref r_359), .unset, .unset, .unset, .unset]) rfl k_) ?_
      show own_Go p e below _ (T352.setTop (mkF m 129 #[.val (.int q), .val (.long ha), .second, .val (.long hb1), .second, .val (.long hc1), .second, .val (.long hd1), .second, .val (.int c9), .val (.int n), .val (.ref b246), .val (.ref r_359), .unset, .unset, .unset, .unset] []))
      refine own_st (fun u_ k_ => XS.iload X352.here hx rfl (hb hby at_129) rfl k_) ?_
      show own_Go p e below _ (T352.setTop (mkF m 131 #[.val (.int q), .val (.long ha), .second, .val (.long hb1), .second, .val (.long hc1), .second, .val (.long hd1), .second, .val (.int c9), .val (.int n), .val (.ref b246), .val (.ref r_359), .unset, .unset, .unset, .unset] [(.int n)]))
      refine own_st (fun u_ k_ => XS.bipush X352.here hx rfl (hb hby at_131) k_) ?_
      show own_Go p e below _ (T352.setTop (mkF m 133 #[.val (.int q), .val (.long ha), .second, .val (.long hb1), .second, .val (.long hc1), .second, .val (.long hd1), .second, .val (.int c9), .val (.int n), .val (.ref b246), .val (.ref r_359), .unset, .unset, .unset, .unset] [(.int (37 : Int32)), (.int n)]))
      refine own_st (fun u_ k_ => XS.icmpYes X352.here hx rfl (pc0 := 133) (pc' := 150) rfl (hb hby at_133) rfl (XT.ii_ge_t hc247) (by decide) (by decide) k_) ?_
      show own_Go p e below _ (T352.setTop (mkF m 150 #[.val (.int q), .val (.long ha), .second, .val (.long hb1), .second, .val (.long hc1), .second, .val (.long hd1), .second, .val (.int c9), .val (.int n), .val (.ref b246), .val (.ref r_359), .unset, .unset, .unset, .unset] []))
      refine own_st (fun u_ k_ => XS.aload X352.here hx rfl (hb hby at_150) rfl rfl k_) ?_
      show own_Go p e below _ (T352.setTop (mkF m 152 #[.val (.int q), .val (.long ha), .second, .val (.long hb1), .second, .val (.long hc1), .second, .val (.long hd1), .second, .val (.int c9), .val (.int n), .val (.ref b246), .val (.ref r_359), .unset, .unset, .unset, .unset] [(.ref r_359)]))
      have O374 : Old Z n0 T352.heap := O358.keep K352 all0
      obtain ⟨T373, v373, L373, X373, hQ373, st373⟩ := own_callV X352 hx hZ (y := own_y_308) (z := own_y_308) hown (own_w hw 10 rfl) (own_w hw 11 rfl) (notFace_of_selects (args := #[]) (mvT hZ (own_w hw 13 rfl))) (own_w hw 13 rfl) (own_w hw 12 rfl) (own_w hw 7 rfl) (own_w hw 14 rfl) own_lm_299 (rmOp1 l Z a0 hw [] we hS r_359 a2_360 T352.heap n0 O374 F367) rfl F366 own_pd_347 (argsL := []) (rest := []) rfl rfl (g := (mkF m 152 #[.val (.int q), .val (.long ha), .second, .val (.long hb1), .second, .val (.long hc1), .second, .val (.long hd1), .second, .val (.int c9), .val (.int n), .val (.ref b246), .val (.ref r_359), .unset, .unset, .unset, .unset] [(.ref r_359)])) rfl (by rw [hml]; rfl) rfl (hb hby at_152) (W := 0) rfl (by decide) (by decide) (by decide) (by decide)
      obtain ⟨rfl, M373, e373⟩ := hQ373
      have N373 := Fr.app N352 M373
      refine own_st (fun u_ k_ => st373 u_ k_) ?_
      show own_Go p e below _ (T373.setTop (mkF m 155 #[.val (.int q), .val (.long ha), .second, .val (.long hb1), .second, .val (.long hc1), .second, .val (.long hd1), .second, .val (.int c9), .val (.int n), .val (.ref b246), .val (.ref r_359), .unset, .unset, .unset, .unset] [(.int (1 : Int32))]))
      refine own_st (fun u_ k_ => XS.ifYes X373.here hx rfl (pc0 := 155) (pc' := 160) rfl (hb hby at_155) rfl (XT.i0_ne_t (by decide)) (by decide) (by decide) k_) ?_
      show own_Go p e below _ (T373.setTop (mkF m 160 #[.val (.int q), .val (.long ha), .second, .val (.long hb1), .second, .val (.long hc1), .second, .val (.long hd1), .second, .val (.int c9), .val (.int n), .val (.ref b246), .val (.ref r_359), .unset, .unset, .unset, .unset] []))
      have V375 : Arv Z T352.heap r3_361 k3_362 .byte (32 : Int32) [(.int ((((ha.toUInt64 >>> ((56 : Int32) &&& 0x3f).toInt64.toUInt64).toInt64).toInt32).toInt8.toInt32)), (.int ((((ha.toUInt64 >>> ((48 : Int32) &&& 0x3f).toInt64.toUInt64).toInt64).toInt32).toInt8.toInt32)), (.int ((((ha.toUInt64 >>> ((40 : Int32) &&& 0x3f).toInt64.toUInt64).toInt64).toInt32).toInt8.toInt32)), (.int ((((ha.toUInt64 >>> ((32 : Int32) &&& 0x3f).toInt64.toUInt64).toInt64).toInt32).toInt8.toInt32)), (.int ((((ha.toUInt64 >>> ((24 : Int32) &&& 0x3f).toInt64.toUInt64).toInt64).toInt32).toInt8.toInt32)), (.int ((((ha.toUInt64 >>> ((16 : Int32) &&& 0x3f).toInt64.toUInt64).toInt64).toInt32).toInt8.toInt32)), (.int ((((ha.toUInt64 >>> ((8 : Int32) &&& 0x3f).toInt64.toUInt64).toInt64).toInt32).toInt8.toInt32)), (.int ((ha.toInt32).toInt8.toInt32)), (.int ((((hb1.toUInt64 >>> ((56 : Int32) &&& 0x3f).toInt64.toUInt64).toInt64).toInt32).toInt8.toInt32)), (.int ((((hb1.toUInt64 >>> ((48 : Int32) &&& 0x3f).toInt64.toUInt64).toInt64).toInt32).toInt8.toInt32)), (.int ((((hb1.toUInt64 >>> ((40 : Int32) &&& 0x3f).toInt64.toUInt64).toInt64).toInt32).toInt8.toInt32)), (.int ((((hb1.toUInt64 >>> ((32 : Int32) &&& 0x3f).toInt64.toUInt64).toInt64).toInt32).toInt8.toInt32)), (.int ((((hb1.toUInt64 >>> ((24 : Int32) &&& 0x3f).toInt64.toUInt64).toInt64).toInt32).toInt8.toInt32)), (.int ((((hb1.toUInt64 >>> ((16 : Int32) &&& 0x3f).toInt64.toUInt64).toInt64).toInt32).toInt8.toInt32)), (.int ((((hb1.toUInt64 >>> ((8 : Int32) &&& 0x3f).toInt64.toUInt64).toInt64).toInt32).toInt8.toInt32)), (.int ((hb1.toInt32).toInt8.toInt32)), (.int ((((hc1.toUInt64 >>> ((56 : Int32) &&& 0x3f).toInt64.toUInt64).toInt64).toInt32).toInt8.toInt32)), (.int ((((hc1.toUInt64 >>> ((48 : Int32) &&& 0x3f).toInt64.toUInt64).toInt64).toInt32).toInt8.toInt32)), (.int ((((hc1.toUInt64 >>> ((40 : Int32) &&& 0x3f).toInt64.toUInt64).toInt64).toInt32).toInt8.toInt32)), (.int ((((hc1.toUInt64 >>> ((32 : Int32) &&& 0x3f).toInt64.toUInt64).toInt64).toInt32).toInt8.toInt32)), (.int ((((hc1.toUInt64 >>> ((24 : Int32) &&& 0x3f).toInt64.toUInt64).toInt64).toInt32).toInt8.toInt32)), (.int ((((hc1.toUInt64 >>> ((16 : Int32) &&& 0x3f).toInt64.toUInt64).toInt64).toInt32).toInt8.toInt32)), (.int ((((hc1.toUInt64 >>> ((8 : Int32) &&& 0x3f).toInt64.toUInt64).toInt64).toInt32).toInt8.toInt32)), (.int ((hc1.toInt32).toInt8.toInt32)), (.int ((((hd1.toUInt64 >>> ((56 : Int32) &&& 0x3f).toInt64.toUInt64).toInt64).toInt32).toInt8.toInt32)), (.int ((((hd1.toUInt64 >>> ((48 : Int32) &&& 0x3f).toInt64.toUInt64).toInt64).toInt32).toInt8.toInt32)), (.int ((((hd1.toUInt64 >>> ((40 : Int32) &&& 0x3f).toInt64.toUInt64).toInt64).toInt32).toInt8.toInt32)), (.int ((((hd1.toUInt64 >>> ((32 : Int32) &&& 0x3f).toInt64.toUInt64).toInt64).toInt32).toInt8.toInt32)), (.int ((((hd1.toUInt64 >>> ((24 : Int32) &&& 0x3f).toInt64.toUInt64).toInt64).toInt32).toInt8.toInt32)), (.int ((((hd1.toUInt64 >>> ((16 : Int32) &&& 0x3f).toInt64.toUInt64).toInt64).toInt32).toInt8.toInt32)), (.int ((((hd1.toUInt64 >>> ((8 : Int32) &&& 0x3f).toInt64.toUInt64).toInt64).toInt32).toInt8.toInt32)), (.int ((hd1.toInt32).toInt8.toInt32))] (.int (0 : Int32)) := F371
      refine own_st (fun u_ k_ => XS.aload X373.here hx rfl (hb hby at_160) rfl rfl k_) ?_
      show own_Go p e below _ (T373.setTop (mkF m 162 #[.val (.int q), .val (.long ha), .second, .val (.long hb1), .second, .val (.long hc1), .second, .val (.long hd1), .second, .val (.int c9), .val (.int n), .val (.ref b246), .val (.ref r_359), .unset, .unset, .unset, .unset] [(.ref b246)]))
      refine own_st (fun u_ k_ => XS.iconst X373.here hx rfl (hb hby at_162) k_) ?_
      show own_Go p e below _ (T373.setTop (mkF m 163 #[.val (.int q), .val (.long ha), .second, .val (.long hb1), .second, .val (.long hc1), .second, .val (.long hd1), .second, .val (.int c9), .val (.int n), .val (.ref b246), .val (.ref r_359), .unset, .unset, .unset, .unset] [(.int (0 : Int32)), (.ref b246)]))
      refine own_st (fun u_ k_ => XS.aload X373.here hx rfl (hb hby at_163) rfl rfl k_) ?_
      show own_Go p e below _ (T373.setTop (mkF m 165 #[.val (.int q), .val (.long ha), .second, .val (.long hb1), .second, .val (.long hc1), .second, .val (.long hd1), .second, .val (.int c9), .val (.int n), .val (.ref b246), .val (.ref r_359), .unset, .unset, .unset, .unset] [(.ref b246), (.int (0 : Int32)), (.ref b246)]))
      refine own_st (fun u_ k_ => XS.iconst X373.here hx rfl (hb hby at_165) k_) ?_
      show own_Go p e below _ (T373.setTop (mkF m 166 #[.val (.int q), .val (.long ha), .second, .val (.long hb1), .second, .val (.long hc1), .second, .val (.long hd1), .second, .val (.int c9), .val (.int n), .val (.ref b246), .val (.ref r_359), .unset, .unset, .unset, .unset] [(.int (0 : Int32)), (.ref b246), (.int (0 : Int32)), (.ref b246)]))
      have F376 := (V277.keep K352 nin0)
      obtain ⟨cl377, Ar377, q377, S377, N377, H377, G377⟩ := id F376
      have hi377 : ¬ ((0 : Int32) < 0 ∨ cl377.slots.size ≤ ((0 : Int32)).toNatClampNeg) := inb_of S377 ⟨by decide, own_lt37 hc247 (by decide)⟩
      have ha377 : cl377.slots[((0 : Int32)).toNatClampNeg]? = some (.int ((((ha.toUInt64 >>> ((56 : Int32) &&& 0x3f).toInt64.toUInt64).toInt64).toInt32).toInt8.toInt32)) := H377.at hi377 rfl
      refine own_st (X373.baloadBytes hx (j := (0 : Int32)) (v := (.int ((((ha.toUInt64 >>> ((56 : Int32) &&& 0x3f).toInt64.toUInt64).toInt64).toInt32).toInt8.toInt32))) (by rw [e373]; exact Ar377.1) (State.isArrayOf_alike hZ.alike Ar377.2.1) Ar377.2.2 hi377 ha377 (g := (mkF m 166 #[.val (.int q), .val (.long ha), .second, .val (.long hb1), .second, .val (.long hc1), .second, .val (.long hd1), .second, .val (.int c9), .val (.int n), .val (.ref b246), .val (.ref r_359), .unset, .unset, .unset, .unset] [(.int (0 : Int32)), (.ref b246), (.int (0 : Int32)), (.ref b246)])) rfl rfl (hb hby at_166)) ?_
      show own_Go p e below _ (T373.setTop (mkF m 167 #[.val (.int q), .val (.long ha), .second, .val (.long hb1), .second, .val (.long hc1), .second, .val (.long hd1), .second, .val (.int c9), .val (.int n), .val (.ref b246), .val (.ref r_359), .unset, .unset, .unset, .unset] [(.int ((((ha.toUInt64 >>> ((56 : Int32) &&& 0x3f).toInt64.toUInt64).toInt64).toInt32).toInt8.toInt32)), (.int (0 : Int32)), (.ref b246)]))
      refine own_st (fun u_ k_ => XS.iconst X373.here hx rfl (hb hby at_167) k_) ?_
      show own_Go p e below _ (T373.setTop (mkF m 168 #[.val (.int q), .val (.long ha), .second, .val (.long hb1), .second, .val (.long hc1), .second, .val (.long hd1), .second, .val (.int c9), .val (.int n), .val (.ref b246), .val (.ref r_359), .unset, .unset, .unset, .unset] [(.int (-1 : Int32)), (.int ((((ha.toUInt64 >>> ((56 : Int32) &&& 0x3f).toInt64.toUInt64).toInt64).toInt32).toInt8.toInt32)), (.int (0 : Int32)), (.ref b246)]))
      refine own_st (fun u_ k_ => XS.ixor X373.here hx rfl (hb hby at_168) rfl k_) ?_
      show own_Go p e below _ (T373.setTop (mkF m 169 #[.val (.int q), .val (.long ha), .second, .val (.long hb1), .second, .val (.long hc1), .second, .val (.long hd1), .second, .val (.int c9), .val (.int n), .val (.ref b246), .val (.ref r_359), .unset, .unset, .unset, .unset] [(.int (((((ha.toUInt64 >>> ((56 : Int32) &&& 0x3f).toInt64.toUInt64).toInt64).toInt32).toInt8.toInt32) ^^^ (-1 : Int32))), (.int (0 : Int32)), (.ref b246)]))
      refine own_st (fun u_ k_ => XS.i2b X373.here hx rfl (hb hby at_169) rfl k_) ?_
      show own_Go p e below _ (T373.setTop (mkF m 170 #[.val (.int q), .val (.long ha), .second, .val (.long hb1), .second, .val (.long hc1), .second, .val (.long hd1), .second, .val (.int c9), .val (.int n), .val (.ref b246), .val (.ref r_359), .unset, .unset, .unset, .unset] [(.int ((((((ha.toUInt64 >>> ((56 : Int32) &&& 0x3f).toInt64.toUInt64).toInt64).toInt32).toInt8.toInt32) ^^^ (-1 : Int32)).toInt8.toInt32)), (.int (0 : Int32)), (.ref b246)]))
      obtain ⟨cl378, Ar378, q378, S378, N378, H378, G378⟩ := id F376
      have hi378 : ¬ ((0 : Int32) < 0 ∨ cl378.slots.size ≤ ((0 : Int32)).toNatClampNeg) := inb_of S378 ⟨by decide, own_lt37 hc247 (by decide)⟩
      obtain ⟨T379, h379, X379, e379, W379, st379⟩ := stB X373 hx hZ e373 Ar378 (j := (0 : Int32)) hi378 (g := (mkF m 170 #[.val (.int q), .val (.long ha), .second, .val (.long hb1), .second, .val (.long hc1), .second, .val (.long hd1), .second, .val (.int c9), .val (.int n), .val (.ref b246), .val (.ref r_359), .unset, .unset, .unset, .unset] [(.int ((((((ha.toUInt64 >>> ((56 : Int32) &&& 0x3f).toInt64.toUInt64).toInt64).toInt32).toInt8.toInt32) ^^^ (-1 : Int32)).toInt8.toInt32)), (.int (0 : Int32)), (.ref b246)])) rfl rfl (hb hby at_170)
      rw [own_bb] at W379
      have N379 := Fr.snoc X379 N373 g254
      have V379 : Arv Z h379 b246 k246 .byte n (List.set ([(.int ((((ha.toUInt64 >>> ((56 : Int32) &&& 0x3f).toInt64.toUInt64).toInt64).toInt32).toInt8.toInt32)), (.int ((((ha.toUInt64 >>> ((48 : Int32) &&& 0x3f).toInt64.toUInt64).toInt64).toInt32).toInt8.toInt32)), (.int ((((ha.toUInt64 >>> ((40 : Int32) &&& 0x3f).toInt64.toUInt64).toInt64).toInt32).toInt8.toInt32)), (.int ((((ha.toUInt64 >>> ((32 : Int32) &&& 0x3f).toInt64.toUInt64).toInt64).toInt32).toInt8.toInt32)), (.int ((((ha.toUInt64 >>> ((24 : Int32) &&& 0x3f).toInt64.toUInt64).toInt64).toInt32).toInt8.toInt32)), (.int ((((ha.toUInt64 >>> ((16 : Int32) &&& 0x3f).toInt64.toUInt64).toInt64).toInt32).toInt8.toInt32)), (.int ((((ha.toUInt64 >>> ((8 : Int32) &&& 0x3f).toInt64.toUInt64).toInt64).toInt32).toInt8.toInt32)), (.int ((ha.toInt32).toInt8.toInt32)), (.int ((((hb1.toUInt64 >>> ((56 : Int32) &&& 0x3f).toInt64.toUInt64).toInt64).toInt32).toInt8.toInt32)), (.int ((((hb1.toUInt64 >>> ((48 : Int32) &&& 0x3f).toInt64.toUInt64).toInt64).toInt32).toInt8.toInt32)), (.int ((((hb1.toUInt64 >>> ((40 : Int32) &&& 0x3f).toInt64.toUInt64).toInt64).toInt32).toInt8.toInt32)), (.int ((((hb1.toUInt64 >>> ((32 : Int32) &&& 0x3f).toInt64.toUInt64).toInt64).toInt32).toInt8.toInt32)), (.int ((((hb1.toUInt64 >>> ((24 : Int32) &&& 0x3f).toInt64.toUInt64).toInt64).toInt32).toInt8.toInt32)), (.int ((((hb1.toUInt64 >>> ((16 : Int32) &&& 0x3f).toInt64.toUInt64).toInt64).toInt32).toInt8.toInt32)), (.int ((((hb1.toUInt64 >>> ((8 : Int32) &&& 0x3f).toInt64.toUInt64).toInt64).toInt32).toInt8.toInt32)), (.int ((hb1.toInt32).toInt8.toInt32)), (.int ((((hc1.toUInt64 >>> ((56 : Int32) &&& 0x3f).toInt64.toUInt64).toInt64).toInt32).toInt8.toInt32)), (.int ((((hc1.toUInt64 >>> ((48 : Int32) &&& 0x3f).toInt64.toUInt64).toInt64).toInt32).toInt8.toInt32)), (.int ((((hc1.toUInt64 >>> ((40 : Int32) &&& 0x3f).toInt64.toUInt64).toInt64).toInt32).toInt8.toInt32)), (.int ((((hc1.toUInt64 >>> ((32 : Int32) &&& 0x3f).toInt64.toUInt64).toInt64).toInt32).toInt8.toInt32)), (.int ((((hc1.toUInt64 >>> ((24 : Int32) &&& 0x3f).toInt64.toUInt64).toInt64).toInt32).toInt8.toInt32)), (.int ((((hc1.toUInt64 >>> ((16 : Int32) &&& 0x3f).toInt64.toUInt64).toInt64).toInt32).toInt8.toInt32)), (.int ((((hc1.toUInt64 >>> ((8 : Int32) &&& 0x3f).toInt64.toUInt64).toInt64).toInt32).toInt8.toInt32)), (.int ((hc1.toInt32).toInt8.toInt32)), (.int ((((hd1.toUInt64 >>> ((56 : Int32) &&& 0x3f).toInt64.toUInt64).toInt64).toInt32).toInt8.toInt32)), (.int ((((hd1.toUInt64 >>> ((48 : Int32) &&& 0x3f).toInt64.toUInt64).toInt64).toInt32).toInt8.toInt32)), (.int ((((hd1.toUInt64 >>> ((40 : Int32) &&& 0x3f).toInt64.toUInt64).toInt64).toInt32).toInt8.toInt32)), (.int ((((hd1.toUInt64 >>> ((32 : Int32) &&& 0x3f).toInt64.toUInt64).toInt64).toInt32).toInt8.toInt32)), (.int ((((hd1.toUInt64 >>> ((24 : Int32) &&& 0x3f).toInt64.toUInt64).toInt64).toInt32).toInt8.toInt32)), (.int ((((hd1.toUInt64 >>> ((16 : Int32) &&& 0x3f).toInt64.toUInt64).toInt64).toInt32).toInt8.toInt32)), (.int ((((hd1.toUInt64 >>> ((8 : Int32) &&& 0x3f).toInt64.toUInt64).toInt64).toInt32).toInt8.toInt32)), (.int ((hd1.toInt32).toInt8.toInt32)), (.int ((q >>> ((8 : Int32) &&& 31)).toInt8.toInt32)), (.int (((c9.toUInt32 >>> ((24 : Int32) &&& 31).toUInt32).toInt32).toInt8.toInt32)), (.int (((c9.toUInt32 >>> ((16 : Int32) &&& 31).toUInt32).toInt32).toInt8.toInt32)), (.int (((c9.toUInt32 >>> ((8 : Int32) &&& 31).toUInt32).toInt32).toInt8.toInt32)), (.int (c9.toInt8.toInt32))] ++ List.replicate 27 (.int (0 : Int32))) 0 (.int ((((((ha.toUInt64 >>> ((56 : Int32) &&& 0x3f).toInt64.toUInt64).toInt64).toInt32).toInt8.toInt32) ^^^ (-1 : Int32)).toInt8.toInt32))) (.int (0 : Int32)) := Arv.set Ar378 q378 S378 N378 H378 G378 (fits_nar_byte _) W379 0 rfl (by simp only [List.length_append, List.length_cons]; omega)
      refine own_st (fun u_ k_ => st379 u_ k_) ?_
      show own_Go p e below _ (T379.setTop (mkF m 171 #[.val (.int q), .val (.long ha), .second, .val (.long hb1), .second, .val (.long hc1), .second, .val (.long hd1), .second, .val (.int c9), .val (.int n), .val (.ref b246), .val (.ref r_359), .unset, .unset, .unset, .unset] []))
      refine own_st (fun u_ k_ => XS.aload X379.here hx rfl (hb hby at_171) rfl rfl k_) ?_
      show own_Go p e below _ (T379.setTop (mkF m 173 #[.val (.int q), .val (.long ha), .second, .val (.long hb1), .second, .val (.long hc1), .second, .val (.long hd1), .second, .val (.int c9), .val (.int n), .val (.ref b246), .val (.ref r_359), .unset, .unset, .unset, .unset] [(.ref r_359)]))
      have ne380 : r_359 ≠ b246 := (Ne.symm (Nat.ne_of_lt (Nat.lt_of_lt_of_le (Nat.lt_of_lt_of_le Y246.lt (Nat.le_trans (Nat.le_trans (Nat.le_trans (Nat.le_trans (Nat.le_trans (Nat.le_trans (Nat.le_trans (Nat.le_trans K255.1 K258.1) K261.1) K264.1) (Nat.le_of_eq W268.size.symm)) (Nat.le_of_eq W270.size.symm)) (Nat.le_of_eq W272.size.symm)) (Nat.le_of_eq W274.size.symm)) (Nat.le_of_eq W276.size.symm))) z363)))
      have F381 := (Fld.other W379 F367 (Or.inl ne380))
      have O383 : Old Z n0 h379 := O374.wr W379 g254
      have F384 := (Exa.wr W379 F366)
      obtain ⟨T382, v382, L382, X382, hQ382, st382⟩ := own_callV X379 hx hZ (y := own_y_317) (z := own_y_317) hown (own_w hw 66 rfl) (own_w hw 67 rfl) (notFace_of_selects (args := #[]) (mvT hZ (own_w hw 69 rfl))) (own_w hw 69 rfl) (own_w hw 68 rfl) (own_w hw 7 rfl) (own_w hw 70 rfl) own_lm_299 (rmOg l Z a0 hw [] we hS r_359 a2_360 h379 n0 O383 F381) e379 F384 own_pd_350 (argsL := []) (rest := []) rfl rfl (g := (mkF m 173 #[.val (.int q), .val (.long ha), .second, .val (.long hb1), .second, .val (.long hc1), .second, .val (.long hd1), .second, .val (.int c9), .val (.int n), .val (.ref b246), .val (.ref r_359), .unset, .unset, .unset, .unset] [(.ref r_359)])) rfl (by rw [hml]; rfl) rfl (hb hby at_173) (W := 0) rfl (by decide) (by decide) (by decide) (by decide)
      obtain ⟨rfl, M382, e382⟩ := hQ382
      have N382 := Fr.app N379 M382
      refine own_st (fun u_ k_ => st382 u_ k_) ?_
      show own_Go p e below _ (T382.setTop (mkF m 176 #[.val (.int q), .val (.long ha), .second, .val (.long hb1), .second, .val (.long hc1), .second, .val (.long hd1), .second, .val (.int c9), .val (.int n), .val (.ref b246), .val (.ref r_359), .unset, .unset, .unset, .unset] [(.ref a2_360)]))
      have F386 := (Exa.wr W379 F368)
      obtain ⟨T385, X385, e385, st385⟩ := castY X382 hx hZ hown (own_w hw 71 rfl) e382 (Ins.self F386) (g := (mkF m 176 #[.val (.int q), .val (.long ha), .second, .val (.long hb1), .second, .val (.long hc1), .second, .val (.long hd1), .second, .val (.int c9), .val (.int n), .val (.ref b246), .val (.ref r_359), .unset, .unset, .unset, .unset] [(.ref a2_360)])) rfl rfl (hb hby at_176)
      refine own_st (fun u_ k_ => st385 u_ k_) ?_
      show own_Go p e below _ (T385.setTop (mkF m 179 #[.val (.int q), .val (.long ha), .second, .val (.long hb1), .second, .val (.long hc1), .second, .val (.long hd1), .second, .val (.int c9), .val (.int n), .val (.ref b246), .val (.ref r_359), .unset, .unset, .unset, .unset] [(.ref a2_360)]))
      refine own_st (fun u_ k_ => XS.astore X385.here hx rfl (hb hby at_179) rfl rfl (l' := #[.val (.int q), .val (.long ha), .second, .val (.long hb1), .second, .val (.long hc1), .second, .val (.long hd1), .second, .val (.int c9), .val (.int n), .val (.ref b246), .val (.ref r_359), .val (.ref a2_360), .unset, .unset, .unset]) rfl k_) ?_
      show own_Go p e below _ (T385.setTop (mkF m 181 #[.val (.int q), .val (.long ha), .second, .val (.long hb1), .second, .val (.long hc1), .second, .val (.long hd1), .second, .val (.int c9), .val (.int n), .val (.ref b246), .val (.ref r_359), .val (.ref a2_360), .unset, .unset, .unset] []))
      refine own_st (fun u_ k_ => XS.aload X385.here hx rfl (hb hby at_181) rfl rfl k_) ?_
      show own_Go p e below _ (T385.setTop (mkF m 183 #[.val (.int q), .val (.long ha), .second, .val (.long hb1), .second, .val (.long hc1), .second, .val (.long hd1), .second, .val (.int c9), .val (.int n), .val (.ref b246), .val (.ref r_359), .val (.ref a2_360), .unset, .unset, .unset] [(.ref a2_360)]))
      have ne387 : a2_360 ≠ b246 := (Ne.symm (Nat.ne_of_lt (Nat.lt_of_lt_of_le (Nat.lt_of_lt_of_le Y246.lt (Nat.le_trans (Nat.le_trans (Nat.le_trans (Nat.le_trans (Nat.le_trans (Nat.le_trans (Nat.le_trans (Nat.le_trans K255.1 K258.1) K261.1) K264.1) (Nat.le_of_eq W268.size.symm)) (Nat.le_of_eq W270.size.symm)) (Nat.le_of_eq W272.size.symm)) (Nat.le_of_eq W274.size.symm)) (Nat.le_of_eq W276.size.symm))) z364)))
      have F388 := (Fld.other W379 F369 (Or.inl ne387))
      have ne389 : r3_361 ≠ b246 := (Ne.symm (Nat.ne_of_lt (Nat.lt_of_lt_of_le (Nat.lt_of_lt_of_le Y246.lt (Nat.le_trans (Nat.le_trans (Nat.le_trans (Nat.le_trans (Nat.le_trans (Nat.le_trans (Nat.le_trans (Nat.le_trans K255.1 K258.1) K261.1) K264.1) (Nat.le_of_eq W268.size.symm)) (Nat.le_of_eq W270.size.symm)) (Nat.le_of_eq W272.size.symm)) (Nat.le_of_eq W274.size.symm)) (Nat.le_of_eq W276.size.symm))) z365)))
      have F390 := (V375.other W379 ne389)
      have F391 := (Exa.wr W379 F372)
      obtain ⟨T392, v392, L392, X392, hQ392, st392⟩ := own_callV X385 hx hZ (y := own_y_341) (z := own_y_341) hown (own_w hw 73 rfl) (own_w hw 74 rfl) (notFace_of_selects (args := #[]) (mvT hZ (own_w hw 76 rfl))) (own_w hw 76 rfl) (own_w hw 75 rfl) (own_w hw 3 rfl) (own_w hw 77 rfl) own_lm_238 (rmH l Z a0 hw [] we hS a2_360 r3_361 k3_362 [(.int ((((ha.toUInt64 >>> ((56 : Int32) &&& 0x3f).toInt64.toUInt64).toInt64).toInt32).toInt8.toInt32)), (.int ((((ha.toUInt64 >>> ((48 : Int32) &&& 0x3f).toInt64.toUInt64).toInt64).toInt32).toInt8.toInt32)), (.int ((((ha.toUInt64 >>> ((40 : Int32) &&& 0x3f).toInt64.toUInt64).toInt64).toInt32).toInt8.toInt32)), (.int ((((ha.toUInt64 >>> ((32 : Int32) &&& 0x3f).toInt64.toUInt64).toInt64).toInt32).toInt8.toInt32)), (.int ((((ha.toUInt64 >>> ((24 : Int32) &&& 0x3f).toInt64.toUInt64).toInt64).toInt32).toInt8.toInt32)), (.int ((((ha.toUInt64 >>> ((16 : Int32) &&& 0x3f).toInt64.toUInt64).toInt64).toInt32).toInt8.toInt32)), (.int ((((ha.toUInt64 >>> ((8 : Int32) &&& 0x3f).toInt64.toUInt64).toInt64).toInt32).toInt8.toInt32)), (.int ((ha.toInt32).toInt8.toInt32)), (.int ((((hb1.toUInt64 >>> ((56 : Int32) &&& 0x3f).toInt64.toUInt64).toInt64).toInt32).toInt8.toInt32)), (.int ((((hb1.toUInt64 >>> ((48 : Int32) &&& 0x3f).toInt64.toUInt64).toInt64).toInt32).toInt8.toInt32)), (.int ((((hb1.toUInt64 >>> ((40 : Int32) &&& 0x3f).toInt64.toUInt64).toInt64).toInt32).toInt8.toInt32)), (.int ((((hb1.toUInt64 >>> ((32 : Int32) &&& 0x3f).toInt64.toUInt64).toInt64).toInt32).toInt8.toInt32)), (.int ((((hb1.toUInt64 >>> ((24 : Int32) &&& 0x3f).toInt64.toUInt64).toInt64).toInt32).toInt8.toInt32)), (.int ((((hb1.toUInt64 >>> ((16 : Int32) &&& 0x3f).toInt64.toUInt64).toInt64).toInt32).toInt8.toInt32)), (.int ((((hb1.toUInt64 >>> ((8 : Int32) &&& 0x3f).toInt64.toUInt64).toInt64).toInt32).toInt8.toInt32)), (.int ((hb1.toInt32).toInt8.toInt32)), (.int ((((hc1.toUInt64 >>> ((56 : Int32) &&& 0x3f).toInt64.toUInt64).toInt64).toInt32).toInt8.toInt32)), (.int ((((hc1.toUInt64 >>> ((48 : Int32) &&& 0x3f).toInt64.toUInt64).toInt64).toInt32).toInt8.toInt32)), (.int ((((hc1.toUInt64 >>> ((40 : Int32) &&& 0x3f).toInt64.toUInt64).toInt64).toInt32).toInt8.toInt32)), (.int ((((hc1.toUInt64 >>> ((32 : Int32) &&& 0x3f).toInt64.toUInt64).toInt64).toInt32).toInt8.toInt32)), (.int ((((hc1.toUInt64 >>> ((24 : Int32) &&& 0x3f).toInt64.toUInt64).toInt64).toInt32).toInt8.toInt32)), (.int ((((hc1.toUInt64 >>> ((16 : Int32) &&& 0x3f).toInt64.toUInt64).toInt64).toInt32).toInt8.toInt32)), (.int ((((hc1.toUInt64 >>> ((8 : Int32) &&& 0x3f).toInt64.toUInt64).toInt64).toInt32).toInt8.toInt32)), (.int ((hc1.toInt32).toInt8.toInt32)), (.int ((((hd1.toUInt64 >>> ((56 : Int32) &&& 0x3f).toInt64.toUInt64).toInt64).toInt32).toInt8.toInt32)), (.int ((((hd1.toUInt64 >>> ((48 : Int32) &&& 0x3f).toInt64.toUInt64).toInt64).toInt32).toInt8.toInt32)), (.int ((((hd1.toUInt64 >>> ((40 : Int32) &&& 0x3f).toInt64.toUInt64).toInt64).toInt32).toInt8.toInt32)), (.int ((((hd1.toUInt64 >>> ((32 : Int32) &&& 0x3f).toInt64.toUInt64).toInt64).toInt32).toInt8.toInt32)), (.int ((((hd1.toUInt64 >>> ((24 : Int32) &&& 0x3f).toInt64.toUInt64).toInt64).toInt32).toInt8.toInt32)), (.int ((((hd1.toUInt64 >>> ((16 : Int32) &&& 0x3f).toInt64.toUInt64).toInt64).toInt32).toInt8.toInt32)), (.int ((((hd1.toUInt64 >>> ((8 : Int32) &&& 0x3f).toInt64.toUInt64).toInt64).toInt32).toInt8.toInt32)), (.int ((hd1.toInt32).toInt8.toInt32))] h379 n0 O383 F388 F390 F391) e385 F386 own_pd_351 (argsL := []) (rest := []) rfl rfl (g := (mkF m 183 #[.val (.int q), .val (.long ha), .second, .val (.long hb1), .second, .val (.long hc1), .second, .val (.long hd1), .second, .val (.int c9), .val (.int n), .val (.ref b246), .val (.ref r_359), .val (.ref a2_360), .unset, .unset, .unset] [(.ref a2_360)])) rfl (by rw [hml]; rfl) rfl (hb hby at_183) (W := 0) rfl (by decide) (by decide) (by decide) (by decide)
      obtain ⟨r_393, kr_394, rfl, M392, K392, z395, F396, F397⟩ := hQ392
      have N392 := Fr.app N382 M392
      refine own_st (fun u_ k_ => st392 u_ k_) ?_
      show own_Go p e below _ (T392.setTop (mkF m 186 #[.val (.int q), .val (.long ha), .second, .val (.long hb1), .second, .val (.long hc1), .second, .val (.long hd1), .second, .val (.int c9), .val (.int n), .val (.ref b246), .val (.ref r_359), .val (.ref a2_360), .unset, .unset, .unset] [(.ref r_393)]))
      refine own_st (fun u_ k_ => XS.astore X392.here hx rfl (hb hby at_186) rfl rfl (l' := #[.val (.int q), .val (.long ha), .second, .val (.long hb1), .second, .val (.long hc1), .second, .val (.long hd1), .second, .val (.int c9), .val (.int n), .val (.ref b246), .val (.ref r_359), .val (.ref a2_360), .val (.ref r_393), .unset, .unset]) rfl k_) ?_
      show own_Go p e below _ (T392.setTop (mkF m 188 #[.val (.int q), .val (.long ha), .second, .val (.long hb1), .second, .val (.long hc1), .second, .val (.long hd1), .second, .val (.int c9), .val (.int n), .val (.ref b246), .val (.ref r_359), .val (.ref a2_360), .val (.ref r_393), .unset, .unset] []))
      refine own_st (fun u_ k_ => XS.aload X392.here hx rfl (hb hby at_188) rfl rfl k_) ?_
      show own_Go p e below _ (T392.setTop (mkF m 190 #[.val (.int q), .val (.long ha), .second, .val (.long hb1), .second, .val (.long hc1), .second, .val (.long hd1), .second, .val (.int c9), .val (.int n), .val (.ref b246), .val (.ref r_359), .val (.ref a2_360), .val (.ref r_393), .unset, .unset] [(.ref r_393)]))
      obtain ⟨cl398, Ar398, -, S398, N398, -, -⟩ := id F396
      refine own_st (X392.arraylength hx Ar398.1 (State.isArrayOf_alike hZ.alike Ar398.2.1) (g := (mkF m 190 #[.val (.int q), .val (.long ha), .second, .val (.long hb1), .second, .val (.long hc1), .second, .val (.long hd1), .second, .val (.int c9), .val (.int n), .val (.ref b246), .val (.ref r_359), .val (.ref a2_360), .val (.ref r_393), .unset, .unset] [(.ref r_393)])) rfl rfl (hb hby at_190)) ?_
      rw [len_of S398 N398]
      show own_Go p e below _ (T392.setTop (mkF m 191 #[.val (.int q), .val (.long ha), .second, .val (.long hb1), .second, .val (.long hc1), .second, .val (.long hd1), .second, .val (.int c9), .val (.int n), .val (.ref b246), .val (.ref r_359), .val (.ref a2_360), .val (.ref r_393), .unset, .unset] [(.int (32 : Int32))]))
      refine own_st (fun u_ k_ => XS.bipush X392.here hx rfl (hb hby at_191) k_) ?_
      show own_Go p e below _ (T392.setTop (mkF m 193 #[.val (.int q), .val (.long ha), .second, .val (.long hb1), .second, .val (.long hc1), .second, .val (.long hd1), .second, .val (.int c9), .val (.int n), .val (.ref b246), .val (.ref r_359), .val (.ref a2_360), .val (.ref r_393), .unset, .unset] [(.int (32 : Int32)), (.int (32 : Int32))]))
      refine own_st (fun u_ k_ => XS.icmpYes X392.here hx rfl (pc0 := 193) (pc' := 198) rfl (hb hby at_193) rfl (XT.ii_eq_t (by decide)) (by decide) (by decide) k_) ?_
      show own_Go p e below _ (T392.setTop (mkF m 198 #[.val (.int q), .val (.long ha), .second, .val (.long hb1), .second, .val (.long hc1), .second, .val (.long hd1), .second, .val (.int c9), .val (.int n), .val (.ref b246), .val (.ref r_359), .val (.ref a2_360), .val (.ref r_393), .unset, .unset] []))
      refine own_st (fun u_ k_ => XS.iload X392.here hx rfl (hb hby at_198) rfl k_) ?_
      show own_Go p e below _ (T392.setTop (mkF m 200 #[.val (.int q), .val (.long ha), .second, .val (.long hb1), .second, .val (.long hc1), .second, .val (.long hd1), .second, .val (.int c9), .val (.int n), .val (.ref b246), .val (.ref r_359), .val (.ref a2_360), .val (.ref r_393), .unset, .unset] [(.int c9)]))
      refine own_st (fun u_ k_ => XS.i2l X392.here hx rfl (hb hby at_200) rfl k_) ?_
      show own_Go p e below _ (T392.setTop (mkF m 201 #[.val (.int q), .val (.long ha), .second, .val (.long hb1), .second, .val (.long hc1), .second, .val (.long hd1), .second, .val (.int c9), .val (.int n), .val (.ref b246), .val (.ref r_359), .val (.ref a2_360), .val (.ref r_393), .unset, .unset] [(.long (c9.toInt64))]))
      refine own_st (X392.ldc2Long hx hown (mvT hZ (own_w hw 87 rfl)) (g := (mkF m 201 #[.val (.int q), .val (.long ha), .second, .val (.long hb1), .second, .val (.long hc1), .second, .val (.long hd1), .second, .val (.int c9), .val (.int n), .val (.ref b246), .val (.ref r_359), .val (.ref a2_360), .val (.ref r_393), .unset, .unset] [(.long (c9.toInt64))])) rfl (hb hby at_201)) ?_
      show own_Go p e below _ (T392.setTop (mkF m 204 #[.val (.int q), .val (.long ha), .second, .val (.long hb1), .second, .val (.long hc1), .second, .val (.long hd1), .second, .val (.int c9), .val (.int n), .val (.ref b246), .val (.ref r_359), .val (.ref a2_360), .val (.ref r_393), .unset, .unset] [(.long (4294967295 : Int64)), (.long (c9.toInt64))]))
      refine own_st (fun u_ k_ => XS.land X392.here hx rfl (hb hby at_204) rfl k_) ?_
      show own_Go p e below _ (T392.setTop (mkF m 205 #[.val (.int q), .val (.long ha), .second, .val (.long hb1), .second, .val (.long hc1), .second, .val (.long hd1), .second, .val (.int c9), .val (.int n), .val (.ref b246), .val (.ref r_359), .val (.ref a2_360), .val (.ref r_393), .unset, .unset] [(.long ((c9.toInt64) &&& (4294967295 : Int64)))]))
      refine own_st (fun u_ k_ => XS.lstore X392.here hx rfl (hb hby at_205) rfl (l' := #[.val (.int q), .val (.long ha), .second, .val (.long hb1), .second, .val (.long hc1), .second, .val (.long hd1), .second, .val (.int c9), .val (.int n), .val (.ref b246), .val (.ref r_359), .val (.ref a2_360), .val (.ref r_393), .val (.long ((c9.toInt64) &&& (4294967295 : Int64))), .second]) rfl k_) ?_
      show own_Go p e below _ (T392.setTop (mkF m 207 #[.val (.int q), .val (.long ha), .second, .val (.long hb1), .second, .val (.long hc1), .second, .val (.long hd1), .second, .val (.int c9), .val (.int n), .val (.ref b246), .val (.ref r_359), .val (.ref a2_360), .val (.ref r_393), .val (.long ((c9.toInt64) &&& (4294967295 : Int64))), .second] []))
      refine own_st (fun u_ k_ => XS.aload X392.here hx rfl (hb hby at_207) rfl rfl k_) ?_
      show own_Go p e below _ (T392.setTop (mkF m 209 #[.val (.int q), .val (.long ha), .second, .val (.long hb1), .second, .val (.long hc1), .second, .val (.long hd1), .second, .val (.int c9), .val (.int n), .val (.ref b246), .val (.ref r_359), .val (.ref a2_360), .val (.ref r_393), .val (.long ((c9.toInt64) &&& (4294967295 : Int64))), .second] [(.ref a2_360)]))
      have F399 := ((Fld.other W379 F370 (Or.inl ne387)).keep K392 nin0)
      have O401 : Old Z n0 T392.heap := O383.keep K392 all0
      have F402 := (F386.keep K392)
      obtain ⟨T400, v400, L400, X400, hQ400, st400⟩ := own_callV X392 hx hZ (y := own_y_345) (z := own_y_345) hown (own_w hw 88 rfl) (own_w hw 89 rfl) (notFace_of_selects (args := #[]) (mvT hZ (own_w hw 91 rfl))) (own_w hw 91 rfl) (own_w hw 90 rfl) (own_w hw 3 rfl) (own_w hw 92 rfl) own_lm_238 (rmC l Z a0 hw [] we hS a2_360 (((((((((0 : Int64) <<< ((8 : Int32) &&& 0x3f).toInt64) ||| (((((c9.toUInt32 >>> ((24 : Int32) &&& 31).toUInt32).toInt32).toInt8.toInt32) &&& (255 : Int32)).toInt64)) <<< ((8 : Int32) &&& 0x3f).toInt64) ||| (((((c9.toUInt32 >>> ((16 : Int32) &&& 31).toUInt32).toInt32).toInt8.toInt32) &&& (255 : Int32)).toInt64)) <<< ((8 : Int32) &&& 0x3f).toInt64) ||| (((((c9.toUInt32 >>> ((8 : Int32) &&& 31).toUInt32).toInt32).toInt8.toInt32) &&& (255 : Int32)).toInt64)) <<< ((8 : Int32) &&& 0x3f).toInt64) ||| (((c9.toInt8.toInt32) &&& (255 : Int32)).toInt64)) T392.heap n0 O401 F399) rfl F402 own_pd_352 (argsL := []) (rest := []) rfl rfl (g := (mkF m 209 #[.val (.int q), .val (.long ha), .second, .val (.long hb1), .second, .val (.long hc1), .second, .val (.long hd1), .second, .val (.int c9), .val (.int n), .val (.ref b246), .val (.ref r_359), .val (.ref a2_360), .val (.ref r_393), .val (.long ((c9.toInt64) &&& (4294967295 : Int64))), .second] [(.ref a2_360)])) rfl (by rw [hml]; rfl) rfl (hb hby at_209) (W := 0) rfl (by decide) (by decide) (by decide) (by decide)
      obtain ⟨rfl, M400, e400⟩ := hQ400
      have N400 := Fr.app N392 M400
      refine own_st (fun u_ k_ => st400 u_ k_) ?_
      show own_Go p e below _ (T400.setTop (mkF m 212 #[.val (.int q), .val (.long ha), .second, .val (.long hb1), .second, .val (.long hc1), .second, .val (.long hd1), .second, .val (.int c9), .val (.int n), .val (.ref b246), .val (.ref r_359), .val (.ref a2_360), .val (.ref r_393), .val (.long ((c9.toInt64) &&& (4294967295 : Int64))), .second] [(.long (((((((((0 : Int64) <<< ((8 : Int32) &&& 0x3f).toInt64) ||| (((((c9.toUInt32 >>> ((24 : Int32) &&& 31).toUInt32).toInt32).toInt8.toInt32) &&& (255 : Int32)).toInt64)) <<< ((8 : Int32) &&& 0x3f).toInt64) ||| (((((c9.toUInt32 >>> ((16 : Int32) &&& 31).toUInt32).toInt32).toInt8.toInt32) &&& (255 : Int32)).toInt64)) <<< ((8 : Int32) &&& 0x3f).toInt64) ||| (((((c9.toUInt32 >>> ((8 : Int32) &&& 31).toUInt32).toInt32).toInt8.toInt32) &&& (255 : Int32)).toInt64)) <<< ((8 : Int32) &&& 0x3f).toInt64) ||| (((c9.toInt8.toInt32) &&& (255 : Int32)).toInt64)))]))
      refine own_st (fun u_ k_ => XS.lload X400.here hx rfl (hb hby at_212) rfl k_) ?_
      show own_Go p e below _ (T400.setTop (mkF m 214 #[.val (.int q), .val (.long ha), .second, .val (.long hb1), .second, .val (.long hc1), .second, .val (.long hd1), .second, .val (.int c9), .val (.int n), .val (.ref b246), .val (.ref r_359), .val (.ref a2_360), .val (.ref r_393), .val (.long ((c9.toInt64) &&& (4294967295 : Int64))), .second] [(.long ((c9.toInt64) &&& (4294967295 : Int64))), (.long (((((((((0 : Int64) <<< ((8 : Int32) &&& 0x3f).toInt64) ||| (((((c9.toUInt32 >>> ((24 : Int32) &&& 31).toUInt32).toInt32).toInt8.toInt32) &&& (255 : Int32)).toInt64)) <<< ((8 : Int32) &&& 0x3f).toInt64) ||| (((((c9.toUInt32 >>> ((16 : Int32) &&& 31).toUInt32).toInt32).toInt8.toInt32) &&& (255 : Int32)).toInt64)) <<< ((8 : Int32) &&& 0x3f).toInt64) ||| (((((c9.toUInt32 >>> ((8 : Int32) &&& 31).toUInt32).toInt32).toInt8.toInt32) &&& (255 : Int32)).toInt64)) <<< ((8 : Int32) &&& 0x3f).toInt64) ||| (((c9.toInt8.toInt32) &&& (255 : Int32)).toInt64)))]))
      refine own_st (fun u_ k_ => XS.lcmp X400.here hx rfl (hb hby at_214) rfl k_) ?_
      show own_Go p e below _ (T400.setTop (mkF m 215 #[.val (.int q), .val (.long ha), .second, .val (.long hb1), .second, .val (.long hc1), .second, .val (.long hd1), .second, .val (.int c9), .val (.int n), .val (.ref b246), .val (.ref r_359), .val (.ref a2_360), .val (.ref r_393), .val (.long ((c9.toInt64) &&& (4294967295 : Int64))), .second] [(.int (lcmpW (((((((((0 : Int64) <<< ((8 : Int32) &&& 0x3f).toInt64) ||| (((((c9.toUInt32 >>> ((24 : Int32) &&& 31).toUInt32).toInt32).toInt8.toInt32) &&& (255 : Int32)).toInt64)) <<< ((8 : Int32) &&& 0x3f).toInt64) ||| (((((c9.toUInt32 >>> ((16 : Int32) &&& 31).toUInt32).toInt32).toInt8.toInt32) &&& (255 : Int32)).toInt64)) <<< ((8 : Int32) &&& 0x3f).toInt64) ||| (((((c9.toUInt32 >>> ((8 : Int32) &&& 31).toUInt32).toInt32).toInt8.toInt32) &&& (255 : Int32)).toInt64)) <<< ((8 : Int32) &&& 0x3f).toInt64) ||| (((c9.toInt8.toInt32) &&& (255 : Int32)).toInt64)) ((c9.toInt64) &&& (4294967295 : Int64))))]))
      refine own_st (fun u_ k_ => XS.ifNo X400.here hx rfl (hb hby at_215) rfl (XT.i0_ne_f (own_cnt c9)) k_) ?_
      show own_Go p e below _ (T400.setTop (mkF m 218 #[.val (.int q), .val (.long ha), .second, .val (.long hb1), .second, .val (.long hc1), .second, .val (.long hd1), .second, .val (.int c9), .val (.int n), .val (.ref b246), .val (.ref r_359), .val (.ref a2_360), .val (.ref r_393), .val (.long ((c9.toInt64) &&& (4294967295 : Int64))), .second] []))
      refine own_st (fun u_ k_ => XS.aload X400.here hx rfl (hb hby at_218) rfl rfl k_) ?_
      show own_Go p e below _ (T400.setTop (mkF m 220 #[.val (.int q), .val (.long ha), .second, .val (.long hb1), .second, .val (.long hc1), .second, .val (.long hd1), .second, .val (.int c9), .val (.int n), .val (.ref b246), .val (.ref r_359), .val (.ref a2_360), .val (.ref r_393), .val (.long ((c9.toInt64) &&& (4294967295 : Int64))), .second] [(.ref r_393)]))
      refine own_st (fun u_ k_ => XS.iconst X400.here hx rfl (hb hby at_220) k_) ?_
      show own_Go p e below _ (T400.setTop (mkF m 221 #[.val (.int q), .val (.long ha), .second, .val (.long hb1), .second, .val (.long hc1), .second, .val (.long hd1), .second, .val (.int c9), .val (.int n), .val (.ref b246), .val (.ref r_359), .val (.ref a2_360), .val (.ref r_393), .val (.long ((c9.toInt64) &&& (4294967295 : Int64))), .second] [(.int (0 : Int32)), (.ref r_393)]))
      refine own_st (fun u_ k_ => XS.lloadN X400.here hx rfl (hb hby at_221) rfl k_) ?_
      show own_Go p e below _ (T400.setTop (mkF m 222 #[.val (.int q), .val (.long ha), .second, .val (.long hb1), .second, .val (.long hc1), .second, .val (.long hd1), .second, .val (.int c9), .val (.int n), .val (.ref b246), .val (.ref r_359), .val (.ref a2_360), .val (.ref r_393), .val (.long ((c9.toInt64) &&& (4294967295 : Int64))), .second] [(.long ha), (.int (0 : Int32)), (.ref r_393)]))
      obtain ⟨T403, v403, L403, X403, hQ403, st403⟩ := own_callS X400 hx hZ (y := own_y_166) hown (own_w hw 93 rfl) (own_w hw 94 rfl) (own_w hw 19 rfl) (own_w hw 95 rfl) own_lm_348 (rmE0 l Z a0 hw [] we hS r_393 kr_394 [(.int ((((ha.toUInt64 >>> ((56 : Int32) &&& 0x3f).toInt64.toUInt64).toInt64).toInt32).toInt8.toInt32)), (.int ((((ha.toUInt64 >>> ((48 : Int32) &&& 0x3f).toInt64.toUInt64).toInt64).toInt32).toInt8.toInt32)), (.int ((((ha.toUInt64 >>> ((40 : Int32) &&& 0x3f).toInt64.toUInt64).toInt64).toInt32).toInt8.toInt32)), (.int ((((ha.toUInt64 >>> ((32 : Int32) &&& 0x3f).toInt64.toUInt64).toInt64).toInt32).toInt8.toInt32)), (.int ((((ha.toUInt64 >>> ((24 : Int32) &&& 0x3f).toInt64.toUInt64).toInt64).toInt32).toInt8.toInt32)), (.int ((((ha.toUInt64 >>> ((16 : Int32) &&& 0x3f).toInt64.toUInt64).toInt64).toInt32).toInt8.toInt32)), (.int ((((ha.toUInt64 >>> ((8 : Int32) &&& 0x3f).toInt64.toUInt64).toInt64).toInt32).toInt8.toInt32)), (.int ((ha.toInt32).toInt8.toInt32)), (.int ((((hb1.toUInt64 >>> ((56 : Int32) &&& 0x3f).toInt64.toUInt64).toInt64).toInt32).toInt8.toInt32)), (.int ((((hb1.toUInt64 >>> ((48 : Int32) &&& 0x3f).toInt64.toUInt64).toInt64).toInt32).toInt8.toInt32)), (.int ((((hb1.toUInt64 >>> ((40 : Int32) &&& 0x3f).toInt64.toUInt64).toInt64).toInt32).toInt8.toInt32)), (.int ((((hb1.toUInt64 >>> ((32 : Int32) &&& 0x3f).toInt64.toUInt64).toInt64).toInt32).toInt8.toInt32)), (.int ((((hb1.toUInt64 >>> ((24 : Int32) &&& 0x3f).toInt64.toUInt64).toInt64).toInt32).toInt8.toInt32)), (.int ((((hb1.toUInt64 >>> ((16 : Int32) &&& 0x3f).toInt64.toUInt64).toInt64).toInt32).toInt8.toInt32)), (.int ((((hb1.toUInt64 >>> ((8 : Int32) &&& 0x3f).toInt64.toUInt64).toInt64).toInt32).toInt8.toInt32)), (.int ((hb1.toInt32).toInt8.toInt32)), (.int ((((hc1.toUInt64 >>> ((56 : Int32) &&& 0x3f).toInt64.toUInt64).toInt64).toInt32).toInt8.toInt32)), (.int ((((hc1.toUInt64 >>> ((48 : Int32) &&& 0x3f).toInt64.toUInt64).toInt64).toInt32).toInt8.toInt32)), (.int ((((hc1.toUInt64 >>> ((40 : Int32) &&& 0x3f).toInt64.toUInt64).toInt64).toInt32).toInt8.toInt32)), (.int ((((hc1.toUInt64 >>> ((32 : Int32) &&& 0x3f).toInt64.toUInt64).toInt64).toInt32).toInt8.toInt32)), (.int ((((hc1.toUInt64 >>> ((24 : Int32) &&& 0x3f).toInt64.toUInt64).toInt64).toInt32).toInt8.toInt32)), (.int ((((hc1.toUInt64 >>> ((16 : Int32) &&& 0x3f).toInt64.toUInt64).toInt64).toInt32).toInt8.toInt32)), (.int ((((hc1.toUInt64 >>> ((8 : Int32) &&& 0x3f).toInt64.toUInt64).toInt64).toInt32).toInt8.toInt32)), (.int ((hc1.toInt32).toInt8.toInt32)), (.int ((((hd1.toUInt64 >>> ((56 : Int32) &&& 0x3f).toInt64.toUInt64).toInt64).toInt32).toInt8.toInt32)), (.int ((((hd1.toUInt64 >>> ((48 : Int32) &&& 0x3f).toInt64.toUInt64).toInt64).toInt32).toInt8.toInt32)), (.int ((((hd1.toUInt64 >>> ((40 : Int32) &&& 0x3f).toInt64.toUInt64).toInt64).toInt32).toInt8.toInt32)), (.int ((((hd1.toUInt64 >>> ((32 : Int32) &&& 0x3f).toInt64.toUInt64).toInt64).toInt32).toInt8.toInt32)), (.int ((((hd1.toUInt64 >>> ((24 : Int32) &&& 0x3f).toInt64.toUInt64).toInt64).toInt32).toInt8.toInt32)), (.int ((((hd1.toUInt64 >>> ((16 : Int32) &&& 0x3f).toInt64.toUInt64).toInt64).toInt32).toInt8.toInt32)), (.int ((((hd1.toUInt64 >>> ((8 : Int32) &&& 0x3f).toInt64.toUInt64).toInt64).toInt32).toInt8.toInt32)), (.int ((hd1.toInt32).toInt8.toInt32))] ha T392.heap n0 O401 F396 rfl rfl rfl rfl rfl rfl rfl rfl) e400 own_pd_353 (argsL := [(.ref r_393), (.int (0 : Int32)), (.long ha)]) (rest := []) rfl rfl (g := (mkF m 222 #[.val (.int q), .val (.long ha), .second, .val (.long hb1), .second, .val (.long hc1), .second, .val (.long hd1), .second, .val (.int c9), .val (.int n), .val (.ref b246), .val (.ref r_359), .val (.ref a2_360), .val (.ref r_393), .val (.long ((c9.toInt64) &&& (4294967295 : Int64))), .second] [(.long ha), (.int (0 : Int32)), (.ref r_393)])) rfl (by rw [hml]; rfl) rfl (hb hby at_222) (W := 0) rfl (by decide) (by decide) (by decide) (by decide)
      obtain ⟨rfl, M403, e403⟩ := hQ403
      have N403 := Fr.app N400 M403
      refine own_st (fun u_ k_ => st403 u_ k_) ?_
      show own_Go p e below _ (T403.setTop (mkF m 225 #[.val (.int q), .val (.long ha), .second, .val (.long hb1), .second, .val (.long hc1), .second, .val (.long hd1), .second, .val (.int c9), .val (.int n), .val (.ref b246), .val (.ref r_359), .val (.ref a2_360), .val (.ref r_393), .val (.long ((c9.toInt64) &&& (4294967295 : Int64))), .second] [(.int (1 : Int32))]))
      refine own_st (fun u_ k_ => XS.ifNo X403.here hx rfl (hb hby at_225) rfl (XT.i0_eq_f (by decide)) k_) ?_
      show own_Go p e below _ (T403.setTop (mkF m 228 #[.val (.int q), .val (.long ha), .second, .val (.long hb1), .second, .val (.long hc1), .second, .val (.long hd1), .second, .val (.int c9), .val (.int n), .val (.ref b246), .val (.ref r_359), .val (.ref a2_360), .val (.ref r_393), .val (.long ((c9.toInt64) &&& (4294967295 : Int64))), .second] []))
      refine own_st (fun u_ k_ => XS.aload X403.here hx rfl (hb hby at_228) rfl rfl k_) ?_
      show own_Go p e below _ (T403.setTop (mkF m 230 #[.val (.int q), .val (.long ha), .second, .val (.long hb1), .second, .val (.long hc1), .second, .val (.long hd1), .second, .val (.int c9), .val (.int n), .val (.ref b246), .val (.ref r_359), .val (.ref a2_360), .val (.ref r_393), .val (.long ((c9.toInt64) &&& (4294967295 : Int64))), .second] [(.ref r_393)]))
      refine own_st (fun u_ k_ => XS.bipush X403.here hx rfl (hb hby at_230) k_) ?_
      show own_Go p e below _ (T403.setTop (mkF m 232 #[.val (.int q), .val (.long ha), .second, .val (.long hb1), .second, .val (.long hc1), .second, .val (.long hd1), .second, .val (.int c9), .val (.int n), .val (.ref b246), .val (.ref r_359), .val (.ref a2_360), .val (.ref r_393), .val (.long ((c9.toInt64) &&& (4294967295 : Int64))), .second] [(.int (8 : Int32)), (.ref r_393)]))
      refine own_st (fun u_ k_ => XS.lloadN X403.here hx rfl (hb hby at_232) rfl k_) ?_
      show own_Go p e below _ (T403.setTop (mkF m 233 #[.val (.int q), .val (.long ha), .second, .val (.long hb1), .second, .val (.long hc1), .second, .val (.long hd1), .second, .val (.int c9), .val (.int n), .val (.ref b246), .val (.ref r_359), .val (.ref a2_360), .val (.ref r_393), .val (.long ((c9.toInt64) &&& (4294967295 : Int64))), .second] [(.long hb1), (.int (8 : Int32)), (.ref r_393)]))
      obtain ⟨T404, v404, L404, X404, hQ404, st404⟩ := own_callS X403 hx hZ (y := own_y_166) hown (own_w hw 93 rfl) (own_w hw 94 rfl) (own_w hw 19 rfl) (own_w hw 95 rfl) own_lm_348 (rmE8 l Z a0 hw [] we hS r_393 kr_394 [(.int ((((ha.toUInt64 >>> ((56 : Int32) &&& 0x3f).toInt64.toUInt64).toInt64).toInt32).toInt8.toInt32)), (.int ((((ha.toUInt64 >>> ((48 : Int32) &&& 0x3f).toInt64.toUInt64).toInt64).toInt32).toInt8.toInt32)), (.int ((((ha.toUInt64 >>> ((40 : Int32) &&& 0x3f).toInt64.toUInt64).toInt64).toInt32).toInt8.toInt32)), (.int ((((ha.toUInt64 >>> ((32 : Int32) &&& 0x3f).toInt64.toUInt64).toInt64).toInt32).toInt8.toInt32)), (.int ((((ha.toUInt64 >>> ((24 : Int32) &&& 0x3f).toInt64.toUInt64).toInt64).toInt32).toInt8.toInt32)), (.int ((((ha.toUInt64 >>> ((16 : Int32) &&& 0x3f).toInt64.toUInt64).toInt64).toInt32).toInt8.toInt32)), (.int ((((ha.toUInt64 >>> ((8 : Int32) &&& 0x3f).toInt64.toUInt64).toInt64).toInt32).toInt8.toInt32)), (.int ((ha.toInt32).toInt8.toInt32)), (.int ((((hb1.toUInt64 >>> ((56 : Int32) &&& 0x3f).toInt64.toUInt64).toInt64).toInt32).toInt8.toInt32)), (.int ((((hb1.toUInt64 >>> ((48 : Int32) &&& 0x3f).toInt64.toUInt64).toInt64).toInt32).toInt8.toInt32)), (.int ((((hb1.toUInt64 >>> ((40 : Int32) &&& 0x3f).toInt64.toUInt64).toInt64).toInt32).toInt8.toInt32)), (.int ((((hb1.toUInt64 >>> ((32 : Int32) &&& 0x3f).toInt64.toUInt64).toInt64).toInt32).toInt8.toInt32)), (.int ((((hb1.toUInt64 >>> ((24 : Int32) &&& 0x3f).toInt64.toUInt64).toInt64).toInt32).toInt8.toInt32)), (.int ((((hb1.toUInt64 >>> ((16 : Int32) &&& 0x3f).toInt64.toUInt64).toInt64).toInt32).toInt8.toInt32)), (.int ((((hb1.toUInt64 >>> ((8 : Int32) &&& 0x3f).toInt64.toUInt64).toInt64).toInt32).toInt8.toInt32)), (.int ((hb1.toInt32).toInt8.toInt32)), (.int ((((hc1.toUInt64 >>> ((56 : Int32) &&& 0x3f).toInt64.toUInt64).toInt64).toInt32).toInt8.toInt32)), (.int ((((hc1.toUInt64 >>> ((48 : Int32) &&& 0x3f).toInt64.toUInt64).toInt64).toInt32).toInt8.toInt32)), (.int ((((hc1.toUInt64 >>> ((40 : Int32) &&& 0x3f).toInt64.toUInt64).toInt64).toInt32).toInt8.toInt32)), (.int ((((hc1.toUInt64 >>> ((32 : Int32) &&& 0x3f).toInt64.toUInt64).toInt64).toInt32).toInt8.toInt32)), (.int ((((hc1.toUInt64 >>> ((24 : Int32) &&& 0x3f).toInt64.toUInt64).toInt64).toInt32).toInt8.toInt32)), (.int ((((hc1.toUInt64 >>> ((16 : Int32) &&& 0x3f).toInt64.toUInt64).toInt64).toInt32).toInt8.toInt32)), (.int ((((hc1.toUInt64 >>> ((8 : Int32) &&& 0x3f).toInt64.toUInt64).toInt64).toInt32).toInt8.toInt32)), (.int ((hc1.toInt32).toInt8.toInt32)), (.int ((((hd1.toUInt64 >>> ((56 : Int32) &&& 0x3f).toInt64.toUInt64).toInt64).toInt32).toInt8.toInt32)), (.int ((((hd1.toUInt64 >>> ((48 : Int32) &&& 0x3f).toInt64.toUInt64).toInt64).toInt32).toInt8.toInt32)), (.int ((((hd1.toUInt64 >>> ((40 : Int32) &&& 0x3f).toInt64.toUInt64).toInt64).toInt32).toInt8.toInt32)), (.int ((((hd1.toUInt64 >>> ((32 : Int32) &&& 0x3f).toInt64.toUInt64).toInt64).toInt32).toInt8.toInt32)), (.int ((((hd1.toUInt64 >>> ((24 : Int32) &&& 0x3f).toInt64.toUInt64).toInt64).toInt32).toInt8.toInt32)), (.int ((((hd1.toUInt64 >>> ((16 : Int32) &&& 0x3f).toInt64.toUInt64).toInt64).toInt32).toInt8.toInt32)), (.int ((((hd1.toUInt64 >>> ((8 : Int32) &&& 0x3f).toInt64.toUInt64).toInt64).toInt32).toInt8.toInt32)), (.int ((hd1.toInt32).toInt8.toInt32))] hb1 T392.heap n0 O401 F396 rfl rfl rfl rfl rfl rfl rfl rfl) e403 own_pd_353 (argsL := [(.ref r_393), (.int (8 : Int32)), (.long hb1)]) (rest := []) rfl rfl (g := (mkF m 233 #[.val (.int q), .val (.long ha), .second, .val (.long hb1), .second, .val (.long hc1), .second, .val (.long hd1), .second, .val (.int c9), .val (.int n), .val (.ref b246), .val (.ref r_359), .val (.ref a2_360), .val (.ref r_393), .val (.long ((c9.toInt64) &&& (4294967295 : Int64))), .second] [(.long hb1), (.int (8 : Int32)), (.ref r_393)])) rfl (by rw [hml]; rfl) rfl (hb hby at_233) (W := 0) rfl (by decide) (by decide) (by decide) (by decide)
      obtain ⟨rfl, M404, e404⟩ := hQ404
      have N404 := Fr.app N403 M404
      refine own_st (fun u_ k_ => st404 u_ k_) ?_
      show own_Go p e below _ (T404.setTop (mkF m 236 #[.val (.int q), .val (.long ha), .second, .val (.long hb1), .second, .val (.long hc1), .second, .val (.long hd1), .second, .val (.int c9), .val (.int n), .val (.ref b246), .val (.ref r_359), .val (.ref a2_360), .val (.ref r_393), .val (.long ((c9.toInt64) &&& (4294967295 : Int64))), .second] [(.int (1 : Int32))]))
      refine own_st (fun u_ k_ => XS.ifNo X404.here hx rfl (hb hby at_236) rfl (XT.i0_eq_f (by decide)) k_) ?_
      show own_Go p e below _ (T404.setTop (mkF m 239 #[.val (.int q), .val (.long ha), .second, .val (.long hb1), .second, .val (.long hc1), .second, .val (.long hd1), .second, .val (.int c9), .val (.int n), .val (.ref b246), .val (.ref r_359), .val (.ref a2_360), .val (.ref r_393), .val (.long ((c9.toInt64) &&& (4294967295 : Int64))), .second] []))
      refine own_st (fun u_ k_ => XS.aload X404.here hx rfl (hb hby at_239) rfl rfl k_) ?_
      show own_Go p e below _ (T404.setTop (mkF m 241 #[.val (.int q), .val (.long ha), .second, .val (.long hb1), .second, .val (.long hc1), .second, .val (.long hd1), .second, .val (.int c9), .val (.int n), .val (.ref b246), .val (.ref r_359), .val (.ref a2_360), .val (.ref r_393), .val (.long ((c9.toInt64) &&& (4294967295 : Int64))), .second] [(.ref r_393)]))
      refine own_st (fun u_ k_ => XS.bipush X404.here hx rfl (hb hby at_241) k_) ?_
      show own_Go p e below _ (T404.setTop (mkF m 243 #[.val (.int q), .val (.long ha), .second, .val (.long hb1), .second, .val (.long hc1), .second, .val (.long hd1), .second, .val (.int c9), .val (.int n), .val (.ref b246), .val (.ref r_359), .val (.ref a2_360), .val (.ref r_393), .val (.long ((c9.toInt64) &&& (4294967295 : Int64))), .second] [(.int (16 : Int32)), (.ref r_393)]))
      refine own_st (fun u_ k_ => XS.lload X404.here hx rfl (hb hby at_243) rfl k_) ?_
      show own_Go p e below _ (T404.setTop (mkF m 245 #[.val (.int q), .val (.long ha), .second, .val (.long hb1), .second, .val (.long hc1), .second, .val (.long hd1), .second, .val (.int c9), .val (.int n), .val (.ref b246), .val (.ref r_359), .val (.ref a2_360), .val (.ref r_393), .val (.long ((c9.toInt64) &&& (4294967295 : Int64))), .second] [(.long hc1), (.int (16 : Int32)), (.ref r_393)]))
      obtain ⟨T405, v405, L405, X405, hQ405, st405⟩ := own_callS X404 hx hZ (y := own_y_166) hown (own_w hw 93 rfl) (own_w hw 94 rfl) (own_w hw 19 rfl) (own_w hw 95 rfl) own_lm_348 (rmE16 l Z a0 hw [] we hS r_393 kr_394 [(.int ((((ha.toUInt64 >>> ((56 : Int32) &&& 0x3f).toInt64.toUInt64).toInt64).toInt32).toInt8.toInt32)), (.int ((((ha.toUInt64 >>> ((48 : Int32) &&& 0x3f).toInt64.toUInt64).toInt64).toInt32).toInt8.toInt32)), (.int ((((ha.toUInt64 >>> ((40 : Int32) &&& 0x3f).toInt64.toUInt64).toInt64).toInt32).toInt8.toInt32)), (.int ((((ha.toUInt64 >>> ((32 : Int32) &&& 0x3f).toInt64.toUInt64).toInt64).toInt32).toInt8.toInt32)), (.int ((((ha.toUInt64 >>> ((24 : Int32) &&& 0x3f).toInt64.toUInt64).toInt64).toInt32).toInt8.toInt32)), (.int ((((ha.toUInt64 >>> ((16 : Int32) &&& 0x3f).toInt64.toUInt64).toInt64).toInt32).toInt8.toInt32)), (.int ((((ha.toUInt64 >>> ((8 : Int32) &&& 0x3f).toInt64.toUInt64).toInt64).toInt32).toInt8.toInt32)), (.int ((ha.toInt32).toInt8.toInt32)), (.int ((((hb1.toUInt64 >>> ((56 : Int32) &&& 0x3f).toInt64.toUInt64).toInt64).toInt32).toInt8.toInt32)), (.int ((((hb1.toUInt64 >>> ((48 : Int32) &&& 0x3f).toInt64.toUInt64).toInt64).toInt32).toInt8.toInt32)), (.int ((((hb1.toUInt64 >>> ((40 : Int32) &&& 0x3f).toInt64.toUInt64).toInt64).toInt32).toInt8.toInt32)), (.int ((((hb1.toUInt64 >>> ((32 : Int32) &&& 0x3f).toInt64.toUInt64).toInt64).toInt32).toInt8.toInt32)), (.int ((((hb1.toUInt64 >>> ((24 : Int32) &&& 0x3f).toInt64.toUInt64).toInt64).toInt32).toInt8.toInt32)), (.int ((((hb1.toUInt64 >>> ((16 : Int32) &&& 0x3f).toInt64.toUInt64).toInt64).toInt32).toInt8.toInt32)), (.int ((((hb1.toUInt64 >>> ((8 : Int32) &&& 0x3f).toInt64.toUInt64).toInt64).toInt32).toInt8.toInt32)), (.int ((hb1.toInt32).toInt8.toInt32)), (.int ((((hc1.toUInt64 >>> ((56 : Int32) &&& 0x3f).toInt64.toUInt64).toInt64).toInt32).toInt8.toInt32)), (.int ((((hc1.toUInt64 >>> ((48 : Int32) &&& 0x3f).toInt64.toUInt64).toInt64).toInt32).toInt8.toInt32)), (.int ((((hc1.toUInt64 >>> ((40 : Int32) &&& 0x3f).toInt64.toUInt64).toInt64).toInt32).toInt8.toInt32)), (.int ((((hc1.toUInt64 >>> ((32 : Int32) &&& 0x3f).toInt64.toUInt64).toInt64).toInt32).toInt8.toInt32)), (.int ((((hc1.toUInt64 >>> ((24 : Int32) &&& 0x3f).toInt64.toUInt64).toInt64).toInt32).toInt8.toInt32)), (.int ((((hc1.toUInt64 >>> ((16 : Int32) &&& 0x3f).toInt64.toUInt64).toInt64).toInt32).toInt8.toInt32)), (.int ((((hc1.toUInt64 >>> ((8 : Int32) &&& 0x3f).toInt64.toUInt64).toInt64).toInt32).toInt8.toInt32)), (.int ((hc1.toInt32).toInt8.toInt32)), (.int ((((hd1.toUInt64 >>> ((56 : Int32) &&& 0x3f).toInt64.toUInt64).toInt64).toInt32).toInt8.toInt32)), (.int ((((hd1.toUInt64 >>> ((48 : Int32) &&& 0x3f).toInt64.toUInt64).toInt64).toInt32).toInt8.toInt32)), (.int ((((hd1.toUInt64 >>> ((40 : Int32) &&& 0x3f).toInt64.toUInt64).toInt64).toInt32).toInt8.toInt32)), (.int ((((hd1.toUInt64 >>> ((32 : Int32) &&& 0x3f).toInt64.toUInt64).toInt64).toInt32).toInt8.toInt32)), (.int ((((hd1.toUInt64 >>> ((24 : Int32) &&& 0x3f).toInt64.toUInt64).toInt64).toInt32).toInt8.toInt32)), (.int ((((hd1.toUInt64 >>> ((16 : Int32) &&& 0x3f).toInt64.toUInt64).toInt64).toInt32).toInt8.toInt32)), (.int ((((hd1.toUInt64 >>> ((8 : Int32) &&& 0x3f).toInt64.toUInt64).toInt64).toInt32).toInt8.toInt32)), (.int ((hd1.toInt32).toInt8.toInt32))] hc1 T392.heap n0 O401 F396 rfl rfl rfl rfl rfl rfl rfl rfl) e404 own_pd_353 (argsL := [(.ref r_393), (.int (16 : Int32)), (.long hc1)]) (rest := []) rfl rfl (g := (mkF m 245 #[.val (.int q), .val (.long ha), .second, .val (.long hb1), .second, .val (.long hc1), .second, .val (.long hd1), .second, .val (.int c9), .val (.int n), .val (.ref b246), .val (.ref r_359), .val (.ref a2_360), .val (.ref r_393), .val (.long ((c9.toInt64) &&& (4294967295 : Int64))), .second] [(.long hc1), (.int (16 : Int32)), (.ref r_393)])) rfl (by rw [hml]; rfl) rfl (hb hby at_245) (W := 0) rfl (by decide) (by decide) (by decide) (by decide)
      obtain ⟨rfl, M405, e405⟩ := hQ405
      have N405 := Fr.app N404 M405
      refine own_st (fun u_ k_ => st405 u_ k_) ?_
      show own_Go p e below _ (T405.setTop (mkF m 248 #[.val (.int q), .val (.long ha), .second, .val (.long hb1), .second, .val (.long hc1), .second, .val (.long hd1), .second, .val (.int c9), .val (.int n), .val (.ref b246), .val (.ref r_359), .val (.ref a2_360), .val (.ref r_393), .val (.long ((c9.toInt64) &&& (4294967295 : Int64))), .second] [(.int (1 : Int32))]))
      refine own_st (fun u_ k_ => XS.ifNo X405.here hx rfl (hb hby at_248) rfl (XT.i0_eq_f (by decide)) k_) ?_
      show own_Go p e below _ (T405.setTop (mkF m 251 #[.val (.int q), .val (.long ha), .second, .val (.long hb1), .second, .val (.long hc1), .second, .val (.long hd1), .second, .val (.int c9), .val (.int n), .val (.ref b246), .val (.ref r_359), .val (.ref a2_360), .val (.ref r_393), .val (.long ((c9.toInt64) &&& (4294967295 : Int64))), .second] []))
      refine own_st (fun u_ k_ => XS.aload X405.here hx rfl (hb hby at_251) rfl rfl k_) ?_
      show own_Go p e below _ (T405.setTop (mkF m 253 #[.val (.int q), .val (.long ha), .second, .val (.long hb1), .second, .val (.long hc1), .second, .val (.long hd1), .second, .val (.int c9), .val (.int n), .val (.ref b246), .val (.ref r_359), .val (.ref a2_360), .val (.ref r_393), .val (.long ((c9.toInt64) &&& (4294967295 : Int64))), .second] [(.ref r_393)]))
      refine own_st (fun u_ k_ => XS.bipush X405.here hx rfl (hb hby at_253) k_) ?_
      show own_Go p e below _ (T405.setTop (mkF m 255 #[.val (.int q), .val (.long ha), .second, .val (.long hb1), .second, .val (.long hc1), .second, .val (.long hd1), .second, .val (.int c9), .val (.int n), .val (.ref b246), .val (.ref r_359), .val (.ref a2_360), .val (.ref r_393), .val (.long ((c9.toInt64) &&& (4294967295 : Int64))), .second] [(.int (24 : Int32)), (.ref r_393)]))
      refine own_st (fun u_ k_ => XS.lload X405.here hx rfl (hb hby at_255) rfl k_) ?_
      show own_Go p e below _ (T405.setTop (mkF m 257 #[.val (.int q), .val (.long ha), .second, .val (.long hb1), .second, .val (.long hc1), .second, .val (.long hd1), .second, .val (.int c9), .val (.int n), .val (.ref b246), .val (.ref r_359), .val (.ref a2_360), .val (.ref r_393), .val (.long ((c9.toInt64) &&& (4294967295 : Int64))), .second] [(.long hd1), (.int (24 : Int32)), (.ref r_393)]))
      obtain ⟨T406, v406, L406, X406, hQ406, st406⟩ := own_callS X405 hx hZ (y := own_y_166) hown (own_w hw 93 rfl) (own_w hw 94 rfl) (own_w hw 19 rfl) (own_w hw 95 rfl) own_lm_348 (rmE24 l Z a0 hw [] we hS r_393 kr_394 [(.int ((((ha.toUInt64 >>> ((56 : Int32) &&& 0x3f).toInt64.toUInt64).toInt64).toInt32).toInt8.toInt32)), (.int ((((ha.toUInt64 >>> ((48 : Int32) &&& 0x3f).toInt64.toUInt64).toInt64).toInt32).toInt8.toInt32)), (.int ((((ha.toUInt64 >>> ((40 : Int32) &&& 0x3f).toInt64.toUInt64).toInt64).toInt32).toInt8.toInt32)), (.int ((((ha.toUInt64 >>> ((32 : Int32) &&& 0x3f).toInt64.toUInt64).toInt64).toInt32).toInt8.toInt32)), (.int ((((ha.toUInt64 >>> ((24 : Int32) &&& 0x3f).toInt64.toUInt64).toInt64).toInt32).toInt8.toInt32)), (.int ((((ha.toUInt64 >>> ((16 : Int32) &&& 0x3f).toInt64.toUInt64).toInt64).toInt32).toInt8.toInt32)), (.int ((((ha.toUInt64 >>> ((8 : Int32) &&& 0x3f).toInt64.toUInt64).toInt64).toInt32).toInt8.toInt32)), (.int ((ha.toInt32).toInt8.toInt32)), (.int ((((hb1.toUInt64 >>> ((56 : Int32) &&& 0x3f).toInt64.toUInt64).toInt64).toInt32).toInt8.toInt32)), (.int ((((hb1.toUInt64 >>> ((48 : Int32) &&& 0x3f).toInt64.toUInt64).toInt64).toInt32).toInt8.toInt32)), (.int ((((hb1.toUInt64 >>> ((40 : Int32) &&& 0x3f).toInt64.toUInt64).toInt64).toInt32).toInt8.toInt32)), (.int ((((hb1.toUInt64 >>> ((32 : Int32) &&& 0x3f).toInt64.toUInt64).toInt64).toInt32).toInt8.toInt32)), (.int ((((hb1.toUInt64 >>> ((24 : Int32) &&& 0x3f).toInt64.toUInt64).toInt64).toInt32).toInt8.toInt32)), (.int ((((hb1.toUInt64 >>> ((16 : Int32) &&& 0x3f).toInt64.toUInt64).toInt64).toInt32).toInt8.toInt32)), (.int ((((hb1.toUInt64 >>> ((8 : Int32) &&& 0x3f).toInt64.toUInt64).toInt64).toInt32).toInt8.toInt32)), (.int ((hb1.toInt32).toInt8.toInt32)), (.int ((((hc1.toUInt64 >>> ((56 : Int32) &&& 0x3f).toInt64.toUInt64).toInt64).toInt32).toInt8.toInt32)), (.int ((((hc1.toUInt64 >>> ((48 : Int32) &&& 0x3f).toInt64.toUInt64).toInt64).toInt32).toInt8.toInt32)), (.int ((((hc1.toUInt64 >>> ((40 : Int32) &&& 0x3f).toInt64.toUInt64).toInt64).toInt32).toInt8.toInt32)), (.int ((((hc1.toUInt64 >>> ((32 : Int32) &&& 0x3f).toInt64.toUInt64).toInt64).toInt32).toInt8.toInt32)), (.int ((((hc1.toUInt64 >>> ((24 : Int32) &&& 0x3f).toInt64.toUInt64).toInt64).toInt32).toInt8.toInt32)), (.int ((((hc1.toUInt64 >>> ((16 : Int32) &&& 0x3f).toInt64.toUInt64).toInt64).toInt32).toInt8.toInt32)), (.int ((((hc1.toUInt64 >>> ((8 : Int32) &&& 0x3f).toInt64.toUInt64).toInt64).toInt32).toInt8.toInt32)), (.int ((hc1.toInt32).toInt8.toInt32)), (.int ((((hd1.toUInt64 >>> ((56 : Int32) &&& 0x3f).toInt64.toUInt64).toInt64).toInt32).toInt8.toInt32)), (.int ((((hd1.toUInt64 >>> ((48 : Int32) &&& 0x3f).toInt64.toUInt64).toInt64).toInt32).toInt8.toInt32)), (.int ((((hd1.toUInt64 >>> ((40 : Int32) &&& 0x3f).toInt64.toUInt64).toInt64).toInt32).toInt8.toInt32)), (.int ((((hd1.toUInt64 >>> ((32 : Int32) &&& 0x3f).toInt64.toUInt64).toInt64).toInt32).toInt8.toInt32)), (.int ((((hd1.toUInt64 >>> ((24 : Int32) &&& 0x3f).toInt64.toUInt64).toInt64).toInt32).toInt8.toInt32)), (.int ((((hd1.toUInt64 >>> ((16 : Int32) &&& 0x3f).toInt64.toUInt64).toInt64).toInt32).toInt8.toInt32)), (.int ((((hd1.toUInt64 >>> ((8 : Int32) &&& 0x3f).toInt64.toUInt64).toInt64).toInt32).toInt8.toInt32)), (.int ((hd1.toInt32).toInt8.toInt32))] hd1 T392.heap n0 O401 F396 rfl rfl rfl rfl rfl rfl rfl rfl) e405 own_pd_353 (argsL := [(.ref r_393), (.int (24 : Int32)), (.long hd1)]) (rest := []) rfl rfl (g := (mkF m 257 #[.val (.int q), .val (.long ha), .second, .val (.long hb1), .second, .val (.long hc1), .second, .val (.long hd1), .second, .val (.int c9), .val (.int n), .val (.ref b246), .val (.ref r_359), .val (.ref a2_360), .val (.ref r_393), .val (.long ((c9.toInt64) &&& (4294967295 : Int64))), .second] [(.long hd1), (.int (24 : Int32)), (.ref r_393)])) rfl (by rw [hml]; rfl) rfl (hb hby at_257) (W := 0) rfl (by decide) (by decide) (by decide) (by decide)
      obtain ⟨rfl, M406, e406⟩ := hQ406
      have N406 := Fr.app N405 M406
      refine own_st (fun u_ k_ => st406 u_ k_) ?_
      show own_Go p e below _ (T406.setTop (mkF m 260 #[.val (.int q), .val (.long ha), .second, .val (.long hb1), .second, .val (.long hc1), .second, .val (.long hd1), .second, .val (.int c9), .val (.int n), .val (.ref b246), .val (.ref r_359), .val (.ref a2_360), .val (.ref r_393), .val (.long ((c9.toInt64) &&& (4294967295 : Int64))), .second] [(.int (1 : Int32))]))
      refine own_st (fun u_ k_ => XS.ifNo X406.here hx rfl (hb hby at_260) rfl (XT.i0_eq_f (by decide)) k_) ?_
      show own_Go p e below _ (T406.setTop (mkF m 263 #[.val (.int q), .val (.long ha), .second, .val (.long hb1), .second, .val (.long hc1), .second, .val (.long hd1), .second, .val (.int c9), .val (.int n), .val (.ref b246), .val (.ref r_359), .val (.ref a2_360), .val (.ref r_393), .val (.long ((c9.toInt64) &&& (4294967295 : Int64))), .second] []))
      refine own_st (fun u_ k_ => XS.iconst X406.here hx rfl (hb hby at_263) k_) ?_
      show own_Go p e below _ (T406.setTop (mkF m 264 #[.val (.int q), .val (.long ha), .second, .val (.long hb1), .second, .val (.long hc1), .second, .val (.long hd1), .second, .val (.int c9), .val (.int n), .val (.ref b246), .val (.ref r_359), .val (.ref a2_360), .val (.ref r_393), .val (.long ((c9.toInt64) &&& (4294967295 : Int64))), .second] [(.int (1 : Int32))]))
      refine own_st (fun u_ k_ => XS.goto X406.here hx rfl (pc0 := 264) (pc' := 268) rfl (hb hby at_264) (by decide) (by decide) k_) ?_
      show own_Go p e below _ (T406.setTop (mkF m 268 #[.val (.int q), .val (.long ha), .second, .val (.long hb1), .second, .val (.long hc1), .second, .val (.long hd1), .second, .val (.int c9), .val (.int n), .val (.ref b246), .val (.ref r_359), .val (.ref a2_360), .val (.ref r_393), .val (.long ((c9.toInt64) &&& (4294967295 : Int64))), .second] [(.int (1 : Int32))]))
      have K407 : Keep h0 h246 [] := (Keep.refl h0 []).ext E246
      have z409 : h0.size ≤ b246 := Nat.le_trans (Nat.le_refl _) (Nat.le_of_eq g246.symm)
      have K408 : Keep h0 T255.heap [] := K407.trans K255 (allS (Or.inr z409) all0)
      have K410 : Keep h0 T258.heap [] := K408.trans K258 (allS (Or.inr z409) all0)
      have K411 : Keep h0 T261.heap [] := K410.trans K261 (allS (Or.inr z409) all0)
      have K412 : Keep h0 T264.heap [] := K411.trans K264 (allS (Or.inr z409) all0)
      have K413 : Keep h0 h268 [] := K412.wr W268 (Or.inr z409)
      have K414 : Keep h0 h270 [] := K413.wr W270 (Or.inr z409)
      have K415 : Keep h0 h272 [] := K414.wr W272 (Or.inr z409)
      have K416 : Keep h0 h274 [] := K415.wr W274 (Or.inr z409)
      have K417 : Keep h0 h276 [] := K416.wr W276 (Or.inr z409)
      have K418 : Keep h0 T352.heap [] := K417.trans K352 all0
      have K419 : Keep h0 h379 [] := K418.wr W379 (Or.inr z409)
      have K420 : Keep h0 T392.heap [] := K419.trans K392 all0
      exact own_retX X406 hx hlk hret rfl (Or.inl ⟨rfl, by simp, _, rfl⟩) (hb hby at_268) (by decide) (by decide) (show Qrm0 Z we q ha hb1 hc1 hd1 c9 h0 n0 (some (.int (1 : Int32))) T406.heap _ from (by rw [e406]; exact ⟨rfl, N406, K420⟩))
set_option maxRecDepth 65536 in
set_option maxHeartbeats 40000000 in
theorem comes_1 {Post : Tables → Env → Array Value → State → Outcome → State → Prop} (hpost : ∀ tb e args s v u, (limb_1_1.after args s (.returned v) u = true ∧ limb_1_2.after args s (.returned v) u = true ∧ True) → FrameEnd s (.returned v) u (Jvm.fieldLocs frame_1_writes args s ++ Jvm.arrayLocs frame_1_arrays args s ++ Jvm.staticLocs frame_1_statics s) 24 384 → Post tb e args s (.returned v) u) :
    ArmFor flags0 classFile x code maxLocals ret World_1 tables_1 room_1 Calls_1 rest_1 Pre_1 Post := by
  intro l hfl _ _ p e ha hc hk s m args below hf hA hF happ hP
  obtain ⟨hcalls, hrest, hpre⟩ := hP
  obtain ⟨-, -, -, hnamed, -, -, -, hat⟩ := (Spec.applies_iff hf).mp happ
  obtain ⟨hg, hn⟩ := and_e (Cond.before_iff.mp (show (Jvm.Cond.and given_1 narrow_1).before args s = true from hpre))
  obtain ⟨hcount, hr0⟩ := and_e hg
  obtain ⟨ha0, hr1⟩ := and_e hr0
  obtain ⟨ha1, hr2⟩ := and_e hr1
  obtain ⟨ha2, hr3⟩ := and_e hr2
  obtain ⟨ha3, hr4⟩ := and_e hr3
  obtain ⟨ha4, hr5⟩ := and_e hr4
  have ha5 := hr5
  obtain ⟨w_0, w_1, w_2, w_3, w_4, w_5, rfl⟩ : ∃ w_0 w_1 w_2 w_3 w_4 w_5 : Value, args = #[w_0, w_1, w_2, w_3, w_4, w_5] := by
    have hs : args.size = 6 := by simpa [Cond.value, given_1] using hcount
    obtain ⟨L⟩ := args
    match L, hs with
    | [w_0, w_1, w_2, w_3, w_4, w_5], _ => exact ⟨w_0, w_1, w_2, w_3, w_4, w_5, rfl⟩
  have hw := fun d (hd : d ∈ tables_1) => atoms_spec (ws := Jvm.Cond.code x code maxLocals ret :: tables_1) hat d (List.mem_cons_of_mem _ hd)
  have hfit : Fit s := fun {y c} hc i hi => by
    obtain ⟨ha, rfl⟩ := Array.getElem?_eq_some_iff.mp hc
    have q := List.all_eq_true.mp ((Array.all_eq_true_iff_forall_mem.mp hF) _ (Array.getElem_mem ha)) i (List.mem_range.mpr hi)
    simpa [Array.getElem?_eq_getElem hi] using q
  obtain ⟨i_0, ei_0⟩ := is_v ha0
  obtain rfl : w_0 = (.int i_0) := Option.some.inj ei_0
  obtain ⟨i_1, ei_1⟩ := isL_v ha1
  obtain rfl : w_1 = (.long i_1) := Option.some.inj ei_1
  obtain ⟨i_2, ei_2⟩ := isL_v ha2
  obtain rfl : w_2 = (.long i_2) := Option.some.inj ei_2
  obtain ⟨i_3, ei_3⟩ := isL_v ha3
  obtain rfl : w_3 = (.long i_3) := Option.some.inj ei_3
  obtain ⟨i_4, ei_4⟩ := isL_v ha4
  obtain rfl : w_4 = (.long i_4) := Option.some.inj ei_4
  obtain ⟨i_5, ei_5⟩ := is_v ha5
  obtain rfl : w_5 = (.int i_5) := Option.some.inj ei_5
  obtain ⟨hsets, hown0⟩ := atoms_of _ (rest_1_c_eq ▸ (show rest_1_c.before _ s = true from hrest))
  obtain ⟨we, ewe⟩ := exa_v (Cond.before_iff.mp (hsets _ (List.mem_of_getElem? (i := 2) rfl)))
  have hS : own_S s we := ⟨(Sta.start ewe (Or.inl (hsets _ (List.mem_of_getElem? (i := 1) rfl)))), (Exa.start ewe (Cond.before_iff.mp (hsets _ (List.mem_of_getElem? (i := 2) rfl)))), (own_fldN ewe (Cond.before_iff.mp (hsets _ (List.mem_of_getElem? (i := 3) rfl))))⟩
  obtain ⟨n, o, h1, h2, h3, _, L, rfl, ⟨rfl, N, _⟩, hq⟩ := rm0 l s _ hw tables_1 we hS i_0 i_1 i_2 i_3 i_4 i_5 s.heap s.heap.size (Old.start s) p e ha hc hk s m _ below hf ((Spec.applies_iff_loose hf).mp happ).1 ⟨rfl, State.Warmed39.refl s, rfl⟩ trivial
  refine ⟨n, _, h1, h2, h3, hpost _ _ _ _ _ _ ⟨Cond.after_iff.mpr rfl, Cond.after_iff.mpr (eq_i res_at (Term.int_eval (1)) rfl), trivial⟩ ⟨hq.1, hq.2.1, (hq.2.2.sift fun y hy => Or.inr (N y hy)).mono (by decide) (by decide)⟩⟩
theorem main_1_1 : Claimed_1_1 := comes_1 fun _ _ _ _ _ _ h hF => ⟨h.1, hF⟩
theorem main_1_2 : Claimed_1_2 := comes_1 fun _ _ _ _ _ _ h hF => ⟨h.2.1, hF⟩
end Jvm.Pilot.@@N@@
namespace Jvm.Pilot.@@N@@
open Jvm Jvm.ClassFile Sem Op Lib Jvm.Free Jvm.Stand Jvm.Pilot.@@N@@.Jvm.D
/-! MADE BY PROGRAM (witnessworld.py) out of the Statement's table words and the real class files: 14 classes; the members and pool entries that the words name. The judged class is class 1, her method 1. -/
namespace start1
open Jvm.ClassFile
def u (s : String) : CpInfo := .utf8 (stringToUtf16 s)
/-- a pool by its gaps: so many unusable entries, then the entry; so many at the end -/
def gap : Nat → List CpInfo → List CpInfo
  | 0, r => r
  | n + 1, r => .unusable :: gap n r
def poolList (es : List (Nat × CpInfo)) (last : Nat) : List CpInfo := es.foldr (fun e r => gap e.1 (e.2 :: r)) (gap last [])
def pool (es : List (Nat × CpInfo)) (last : Nat) : Array CpInfo := ⟨poolList es last⟩
def fileOf (pool : Array CpInfo) (this : Nat) (attrs : Array Attribute := #[]) (ms : Array MethodInfo := #[]) (fl : Nat := 33) (sup : Nat := 0) (ifs : Array Nat := #[]) (fds : Array FieldInfo := #[]) : ClassFile where
  minorVersion := 0
  majorVersion := 65
  constantPool := pool
  accessFlags := fl
  thisClass := this
  superClass := sup
  interfaces := ifs
  fields := fds
  methods := ms
  attributes := attrs
def plain (name : String) (sup : Option ClassId) : Class where
  name := name
  kind := .ordinary
  loader := none
  accessFlags := 33
  super := sup
  interfaces := #[]
  cf := none
  fields := #[]
  methods := #[]
  instanceTypes := #[]
  staticTypes := #[]
  resolved := #[]
  callSites := []
  init := .initialized
  statics := none
  mirror := none

def pool0 : Array CpInfo := pool [(5, u "<init>"), (0, u "()V"), (1, .class_ 10), (1, u "java/lang/Object"), (85, u "clone"), (0, u "()Ljava/lang/Object;")] 26

def k0c0 : Code := { maxStack := 0, maxLocals := 1, code := object_method_1_code, exceptionTable := #[], attributes := #[] }
def k0m0 : Method := { name := "<init>", desc := "()V", sig := { parameters := [], returnType := none }, accessFlags := 1, code := some k0c0 }
def k0m1 : Method := { name := "clone", desc := "()Ljava/lang/Object;", sig := { parameters := [], returnType := some (.object "java/lang/Object") }, accessFlags := 260, code := none }
/-- java/lang/Object -/
def k0 : Class := { plain "java/lang/Object" none with
  accessFlags := 33
  interfaces := #[]
  cf := some (fileOf pool0 8 #[] #[{ accessFlags := 1, nameIndex := 5, descriptorIndex := 6, attributes := #[] }, { accessFlags := 260, nameIndex := 96, descriptorIndex := 97, attributes := #[] }] 33 0 #[] #[])
  fields := #[]
  methods := #[k0m0, k0m1]
  instanceTypes := #[]
  staticTypes := #[]
  resolved := Array.replicate 124 none
  statics := none }

def pool1 : Array CpInfo := pool [(2, .class_ 4), (1, u "java/lang/Object"), (0, u "<init>"), (0, u "()V"), (0, .methodref 8 9), (0, .class_ 10), (0, .nameAndType 11 12), (0, u "com/example/tasdik/tasdik/core/appattest/AuthenticatorDataOfAssertionPinLaw"), (0, u "put8"), (0, u "([BIJ)V"), (0, .methodref 14 15), (0, .class_ 16), (0, .nameAndType 17 18), (0, u "com/example/tasdik/tasdik/core/appattest/AuthenticatorData"), (0, u "ofAssertion"), (0, u "([B)Ljava/util/Optional;"), (0, .methodref 20 21), (0, .class_ 22), (0, .nameAndType 23 24), (0, u "java/util/Optional"), (0, u "isPresent"), (0, u "()Z"), (0, .methodref 20 26), (0, .nameAndType 27 28), (0, u "get"), (0, u "()Ljava/lang/Object;"), (0, .methodref 14 30), (0, .nameAndType 31 32), (0, u "rpIdHash"), (0, u "()[B"), (0, .long 4294967295), (1, .methodref 14 36), (0, .nameAndType 37 38), (0, u "counter"), (0, u "()J"), (0, .methodref 8 40), (0, .nameAndType 41 42), (0, u "eq8"), (0, u "([BIJ)Z"), (2, u "law"), (0, u "(IJJJJI)Z")] 5

def k1m0 : Method := { name := "<init>", desc := "()V", sig := { parameters := [], returnType := none }, accessFlags := 1, code := none }
def k1c1 : Code := { maxStack := 4, maxLocals := 17, code := code, exceptionTable := #[], attributes := #[] }
def k1m1 : Method := { name := "law", desc := "(IJJJJI)Z", sig := { parameters := [.int, .long, .long, .long, .long, .int], returnType := some .boolean }, accessFlags := 9, code := some k1c1 }
def k1c2 : Code := { maxStack := 5, maxLocals := 4, code := method_3_code, exceptionTable := #[], attributes := #[] }
def k1m2 : Method := { name := "put8", desc := "([BIJ)V", sig := { parameters := [(.array .byte), .int, .long], returnType := none }, accessFlags := 10, code := some k1c2 }
def k1c3 : Code := { maxStack := 4, maxLocals := 4, code := method_4_code, exceptionTable := #[], attributes := #[] }
def k1m3 : Method := { name := "eq8", desc := "([BIJ)Z", sig := { parameters := [(.array .byte), .int, .long], returnType := some .boolean }, accessFlags := 10, code := some k1c3 }
/-- com/example/tasdik/tasdik/core/appattest/AuthenticatorDataOfAssertionPinLaw -/
def k1 : Class := { plain "com/example/tasdik/tasdik/core/appattest/AuthenticatorDataOfAssertionPinLaw" (some 0) with
  accessFlags := 49
  interfaces := #[]
  cf := some (fileOf pool1 8 #[] #[{ accessFlags := 1, nameIndex := 5, descriptorIndex := 6, attributes := #[] }, { accessFlags := 9, nameIndex := 45, descriptorIndex := 46, attributes := #[] }, { accessFlags := 10, nameIndex := 11, descriptorIndex := 12, attributes := #[] }, { accessFlags := 10, nameIndex := 41, descriptorIndex := 42, attributes := #[] }] 49 2 #[] #[])
  fields := #[]
  methods := #[k1m0, k1m1, k1m2, k1m3]
  instanceTypes := #[]
  staticTypes := #[]
  resolved := Array.replicate 52 none
  statics := none }

def pool2 : Array CpInfo := pool [(1, .methodref 2 3), (0, .class_ 4), (0, .nameAndType 5 6), (0, u "java/lang/Object"), (0, u "<init>"), (0, u "()V"), (0, .class_ 8), (0, u "com/example/tasdik/tasdik/core/appattest/AuthenticatorData"), (0, .methodref 10 11), (0, .class_ 12), (0, .nameAndType 13 14), (0, u "java/util/Arrays"), (0, u "copyOf"), (0, u "([BI)[B"), (0, .fieldref 7 16), (0, .nameAndType 17 18), (0, u "rpIdHash"), (0, u "[B"), (0, .methodref 7 20), (0, .nameAndType 21 22), (0, u "bigEndian"), (0, u "([BII)J"), (0, .fieldref 7 24), (0, .nameAndType 25 26), (0, u "counter"), (0, u "J"), (0, .fieldref 7 28), (0, .nameAndType 29 18), (0, u "aaguid"), (0, .fieldref 7 31), (0, .nameAndType 32 18), (0, u "credentialId"), (0, .methodref 34 35), (0, .class_ 36), (0, .nameAndType 37 38), (0, u "java/util/Optional"), (0, u "empty"), (0, u "()Ljava/util/Optional;"), (0, .methodref 7 40), (0, .nameAndType 5 41), (0, u "([B[B[B)V"), (0, .methodref 34 43), (0, .nameAndType 44 45), (0, u "of"), (0, u "(Ljava/lang/Object;)Ljava/util/Optional;"), (4, .methodref 51 52), (0, .class_ 18), (0, .nameAndType 53 54), (0, u "clone"), (0, u "()Ljava/lang/Object;"), (0, u "RP_ID_HASH_LENGTH"), (0, u "I"), (2, u "COUNTER_AT"), (1, u "COUNTER_END"), (1, u "AAGUID_AT"), (0, u "CREDENTIAL_ID_LENGTH_AT"), (1, u "CREDENTIAL_ID_AT"), (3, u "ofAssertion"), (0, u "([B)Ljava/util/Optional;"), (4, u "()[B"), (0, u "()J")] 2

def k2c0 : Code := { maxStack := 4, maxLocals := 4, code := prog_14_method_1_code, exceptionTable := #[], attributes := #[] }
def k2m0 : Method := { name := "<init>", desc := "([B[B[B)V", sig := { parameters := [(.array .byte), (.array .byte), (.array .byte)], returnType := none }, accessFlags := 2, code := some k2c0 }
def k2c1 : Code := { maxStack := 5, maxLocals := 1, code := prog_14_method_2_code, exceptionTable := #[], attributes := #[] }
def k2m1 : Method := { name := "ofAssertion", desc := "([B)Ljava/util/Optional;", sig := { parameters := [(.array .byte)], returnType := some (.object "java/util/Optional") }, accessFlags := 8, code := some k2c1 }
def k2c2 : Code := { maxStack := 4, maxLocals := 6, code := prog_14_method_4_code, exceptionTable := #[], attributes := #[] }
def k2m2 : Method := { name := "bigEndian", desc := "([BII)J", sig := { parameters := [(.array .byte), .int, .int], returnType := some .long }, accessFlags := 10, code := some k2c2 }
def k2c3 : Code := { maxStack := 1, maxLocals := 1, code := prog_14_method_5_code, exceptionTable := #[], attributes := #[] }
def k2m3 : Method := { name := "rpIdHash", desc := "()[B", sig := { parameters := [], returnType := some (.array .byte) }, accessFlags := 0, code := some k2c3 }
def k2c4 : Code := { maxStack := 2, maxLocals := 1, code := prog_14_method_6_code, exceptionTable := #[], attributes := #[] }
def k2m4 : Method := { name := "counter", desc := "()J", sig := { parameters := [], returnType := some .long }, accessFlags := 0, code := some k2c4 }
/-- com/example/tasdik/tasdik/core/appattest/AuthenticatorData -/
def k2 : Class := { plain "com/example/tasdik/tasdik/core/appattest/AuthenticatorData" (some 0) with
  accessFlags := 48
  interfaces := #[]
  cf := some (fileOf pool2 7 #[] #[{ accessFlags := 2, nameIndex := 5, descriptorIndex := 41, attributes := #[] }, { accessFlags := 8, nameIndex := 70, descriptorIndex := 71, attributes := #[] }, { accessFlags := 10, nameIndex := 21, descriptorIndex := 22, attributes := #[] }, { accessFlags := 0, nameIndex := 17, descriptorIndex := 76, attributes := #[] }, { accessFlags := 0, nameIndex := 25, descriptorIndex := 77, attributes := #[] }] 48 2 #[] #[{ accessFlags := 26, nameIndex := 55, descriptorIndex := 56, attributes := #[] }, { accessFlags := 26, nameIndex := 59, descriptorIndex := 56, attributes := #[] }, { accessFlags := 26, nameIndex := 61, descriptorIndex := 56, attributes := #[] }, { accessFlags := 26, nameIndex := 63, descriptorIndex := 56, attributes := #[] }, { accessFlags := 26, nameIndex := 64, descriptorIndex := 56, attributes := #[] }, { accessFlags := 26, nameIndex := 66, descriptorIndex := 56, attributes := #[] }, { accessFlags := 18, nameIndex := 17, descriptorIndex := 18, attributes := #[] }, { accessFlags := 18, nameIndex := 25, descriptorIndex := 26, attributes := #[] }, { accessFlags := 18, nameIndex := 29, descriptorIndex := 18, attributes := #[] }, { accessFlags := 18, nameIndex := 32, descriptorIndex := 18, attributes := #[] }])
  fields := #[{ name := "RP_ID_HASH_LENGTH", type := .int, accessFlags := 26, slot := 0, constantValue := 0 }, { name := "COUNTER_AT", type := .int, accessFlags := 26, slot := 1, constantValue := 0 }, { name := "COUNTER_END", type := .int, accessFlags := 26, slot := 2, constantValue := 0 }, { name := "AAGUID_AT", type := .int, accessFlags := 26, slot := 3, constantValue := 0 }, { name := "CREDENTIAL_ID_LENGTH_AT", type := .int, accessFlags := 26, slot := 4, constantValue := 0 }, { name := "CREDENTIAL_ID_AT", type := .int, accessFlags := 26, slot := 5, constantValue := 0 }, { name := "rpIdHash", type := (.array .byte), accessFlags := 18, slot := 0, constantValue := 0 }, { name := "counter", type := .long, accessFlags := 18, slot := 1, constantValue := 0 }, { name := "aaguid", type := (.array .byte), accessFlags := 18, slot := 2, constantValue := 0 }, { name := "credentialId", type := (.array .byte), accessFlags := 18, slot := 3, constantValue := 0 }]
  methods := #[k2m0, k2m1, k2m2, k2m3, k2m4]
  instanceTypes := #[(.array .byte), .long, (.array .byte), (.array .byte)]
  staticTypes := #[.int, .int, .int, .int, .int, .int]
  resolved := Array.replicate 80 none
  statics := none }

def pool3 : Array CpInfo := pool [(1, .fieldref 2 3), (0, .class_ 4), (0, .nameAndType 5 6), (0, u "java/util/Optional"), (0, u "EMPTY"), (0, u "Ljava/util/Optional;"), (0, .methodref 8 9), (0, .class_ 10), (0, .nameAndType 11 12), (0, u "java/lang/Object"), (0, u "<init>"), (0, u "()V"), (0, .fieldref 2 14), (0, .nameAndType 15 16), (0, u "value"), (0, u "Ljava/lang/Object;"), (0, .methodref 18 19), (0, .class_ 20), (0, .nameAndType 21 22), (0, u "java/util/Objects"), (0, u "requireNonNull"), (0, u "(Ljava/lang/Object;)Ljava/lang/Object;"), (0, .methodref 2 24), (0, .nameAndType 11 25), (0, u "(Ljava/lang/Object;)V"), (20, u "()Z"), (8, u "empty"), (0, u "()Ljava/util/Optional;"), (8, u "(Ljava/lang/Object;)Ljava/util/Optional;"), (2, u "isPresent"), (4, u "get"), (0, u "()Ljava/lang/Object;"), (7, u "of")] 104

def k3c0 : Code := { maxStack := 1, maxLocals := 1, code := jdk_32_method_1_code, exceptionTable := #[], attributes := #[] }
def k3m0 : Method := { name := "empty", desc := "()Ljava/util/Optional;", sig := { parameters := [], returnType := some (.object "java/util/Optional") }, accessFlags := 9, code := some k3c0 }
def k3c1 : Code := { maxStack := 2, maxLocals := 2, code := jdk_32_method_2_code, exceptionTable := #[], attributes := #[] }
def k3m1 : Method := { name := "<init>", desc := "(Ljava/lang/Object;)V", sig := { parameters := [(.object "java/lang/Object")], returnType := none }, accessFlags := 2, code := some k3c1 }
def k3c2 : Code := { maxStack := 3, maxLocals := 1, code := jdk_32_method_3_code, exceptionTable := #[], attributes := #[] }
def k3m2 : Method := { name := "of", desc := "(Ljava/lang/Object;)Ljava/util/Optional;", sig := { parameters := [(.object "java/lang/Object")], returnType := some (.object "java/util/Optional") }, accessFlags := 9, code := some k3c2 }
def k3c3 : Code := { maxStack := 3, maxLocals := 1, code := jdk_32_method_5_code, exceptionTable := #[], attributes := #[] }
def k3m3 : Method := { name := "get", desc := "()Ljava/lang/Object;", sig := { parameters := [], returnType := some (.object "java/lang/Object") }, accessFlags := 1, code := some k3c3 }
def k3c4 : Code := { maxStack := 1, maxLocals := 1, code := jdk_32_method_6_code, exceptionTable := #[], attributes := #[] }
def k3m4 : Method := { name := "isPresent", desc := "()Z", sig := { parameters := [], returnType := some .boolean }, accessFlags := 1, code := some k3c4 }
/-- java/util/Optional -/
def k3 : Class := { plain "java/util/Optional" (some 0) with
  accessFlags := 49
  interfaces := #[]
  cf := some (fileOf pool3 2 #[] #[{ accessFlags := 9, nameIndex := 55, descriptorIndex := 56, attributes := #[] }, { accessFlags := 2, nameIndex := 11, descriptorIndex := 25, attributes := #[] }, { accessFlags := 9, nameIndex := 82, descriptorIndex := 65, attributes := #[] }, { accessFlags := 1, nameIndex := 73, descriptorIndex := 74, attributes := #[] }, { accessFlags := 1, nameIndex := 68, descriptorIndex := 46, attributes := #[] }] 49 8 #[] #[{ accessFlags := 26, nameIndex := 5, descriptorIndex := 6, attributes := #[] }, { accessFlags := 18, nameIndex := 15, descriptorIndex := 16, attributes := #[] }])
  fields := #[{ name := "EMPTY", type := (.object "java/util/Optional"), accessFlags := 26, slot := 0, constantValue := 0 }, { name := "value", type := (.object "java/lang/Object"), accessFlags := 18, slot := 0, constantValue := 0 }]
  methods := #[k3m0, k3m1, k3m2, k3m3, k3m4]
  instanceTypes := #[(.object "java/lang/Object")]
  staticTypes := #[(.object "java/util/Optional")]
  resolved := Array.replicate 187 none
  statics := some 0 }

def pool4 : Array CpInfo := pool [(2, .class_ 4), (1, u "java/lang/Object"), (0, u "<init>"), (0, u "()V"), (7, .class_ 16), (1, u "java/util/Arrays"), (57, .class_ 76), (1, u "java/util/Arrays$NaturalOrder"), (36, .class_ 115), (1, u "java/util/Arrays$LegacyMergeSort"), (1, u "Z"), (32, .methodref 151 152), (0, .class_ 153), (0, .nameAndType 154 155), (0, u "java/lang/System"), (0, u "arraycopy"), (0, u "(Ljava/lang/Object;ILjava/lang/Object;II)V"), (146, u "copyOf"), (1, .methodref 305 306), (0, .class_ 307), (0, .nameAndType 308 309), (0, u "java/lang/Math"), (0, u "min"), (0, u "(II)I"), (65, .class_ 376), (0, u "java/util/Arrays$ArrayList"), (68, u "$assertionsDisabled"), (269, u "MIN_ARRAY_SORT_GRAN"), (0, u "I"), (2, u "INSERTIONSORT_THRESHOLD"), (149, u "([BI)[B"), (105, .class_ 976), (0, u "java/util/Arrays$ArrayItr")] 52

def k4m0 : Method := { name := "<init>", desc := "()V", sig := { parameters := [], returnType := none }, accessFlags := 2, code := none }
def k4c1 : Code := { maxStack := 6, maxLocals := 3, code := jdk_65_method_121_code, exceptionTable := #[], attributes := #[] }
def k4m1 : Method := { name := "copyOf", desc := "([BI)[B", sig := { parameters := [(.array .byte), .int], returnType := some (.array .byte) }, accessFlags := 9, code := some k4c1 }
/-- java/util/Arrays -/
def k4 : Class := { plain "java/util/Arrays" (some 0) with
  accessFlags := 49
  interfaces := #[]
  cf := some (fileOf pool4 14 #[.nestMembers #[975, 375, 113, 74]] #[{ accessFlags := 2, nameIndex := 5, descriptorIndex := 6, attributes := #[] }, { accessFlags := 9, nameIndex := 302, descriptorIndex := 869, attributes := #[] }] 49 2 #[] #[{ accessFlags := 26, nameIndex := 715, descriptorIndex := 716, attributes := #[] }, { accessFlags := 26, nameIndex := 719, descriptorIndex := 716, attributes := #[] }, { accessFlags := 4120, nameIndex := 445, descriptorIndex := 117, attributes := #[] }])
  fields := #[{ name := "MIN_ARRAY_SORT_GRAN", type := .int, accessFlags := 26, slot := 0, constantValue := 0 }, { name := "INSERTIONSORT_THRESHOLD", type := .int, accessFlags := 26, slot := 1, constantValue := 0 }, { name := "$assertionsDisabled", type := .boolean, accessFlags := 4120, slot := 2, constantValue := 0 }]
  methods := #[k4m0, k4m1]
  instanceTypes := #[]
  staticTypes := #[.int, .int, .boolean]
  resolved := Array.replicate 1029 none
  statics := none }

def pool5 : Array CpInfo := pool [(1, .class_ 2), (0, u "java/lang/Math"), (1, .class_ 6), (1, u "java/lang/Object"), (0, u "<init>"), (0, u "()V"), (89, .class_ 100), (1, u "java/lang/Math$RandomNumberGeneratorHolder"), (71, u "negativeZeroFloatBits"), (0, u "J"), (2, u "negativeZeroDoubleBits"), (24, u "min"), (43, u "$assertionsDisabled"), (0, u "Z"), (88, u "(II)I"), (2, u "twoToTheDoubleScaleDown"), (0, u "D"), (4, u "twoToTheDoubleScaleUp"), (9, u "E"), (3, u "PI"), (2, u "TAU"), (2, u "DEGREES_TO_RADIANS"), (0, u "RADIANS_TO_DEGREES")] 94

def k5m0 : Method := { name := "<init>", desc := "()V", sig := { parameters := [], returnType := none }, accessFlags := 2, code := none }
def k5c1 : Code := { maxStack := 2, maxLocals := 2, code := jdk_29_method_69_code, exceptionTable := #[], attributes := #[] }
def k5m1 : Method := { name := "min", desc := "(II)I", sig := { parameters := [.int, .int], returnType := some .int }, accessFlags := 9, code := some k5c1 }
/-- java/lang/Math -/
def k5 : Class := { plain "java/lang/Math" (some 0) with
  accessFlags := 49
  interfaces := #[]
  cf := some (fileOf pool5 1 #[.nestMembers #[98]] #[{ accessFlags := 2, nameIndex := 7, descriptorIndex := 8, attributes := #[] }, { accessFlags := 9, nameIndex := 201, descriptorIndex := 335, attributes := #[] }] 49 4 #[] #[{ accessFlags := 25, nameIndex := 354, descriptorIndex := 339, attributes := #[] }, { accessFlags := 25, nameIndex := 358, descriptorIndex := 339, attributes := #[] }, { accessFlags := 25, nameIndex := 361, descriptorIndex := 339, attributes := #[] }, { accessFlags := 26, nameIndex := 364, descriptorIndex := 339, attributes := #[] }, { accessFlags := 26, nameIndex := 365, descriptorIndex := 339, attributes := #[] }, { accessFlags := 26, nameIndex := 172, descriptorIndex := 173, attributes := #[] }, { accessFlags := 26, nameIndex := 176, descriptorIndex := 173, attributes := #[] }, { accessFlags := 8, nameIndex := 344, descriptorIndex := 339, attributes := #[] }, { accessFlags := 8, nameIndex := 338, descriptorIndex := 339, attributes := #[] }, { accessFlags := 4120, nameIndex := 245, descriptorIndex := 246, attributes := #[] }])
  fields := #[{ name := "E", type := .double, accessFlags := 25, slot := 0, constantValue := 0 }, { name := "PI", type := .double, accessFlags := 25, slot := 1, constantValue := 0 }, { name := "TAU", type := .double, accessFlags := 25, slot := 2, constantValue := 0 }, { name := "DEGREES_TO_RADIANS", type := .double, accessFlags := 26, slot := 3, constantValue := 0 }, { name := "RADIANS_TO_DEGREES", type := .double, accessFlags := 26, slot := 4, constantValue := 0 }, { name := "negativeZeroFloatBits", type := .long, accessFlags := 26, slot := 5, constantValue := 0 }, { name := "negativeZeroDoubleBits", type := .long, accessFlags := 26, slot := 6, constantValue := 0 }, { name := "twoToTheDoubleScaleUp", type := .double, accessFlags := 8, slot := 7, constantValue := 0 }, { name := "twoToTheDoubleScaleDown", type := .double, accessFlags := 8, slot := 8, constantValue := 0 }, { name := "$assertionsDisabled", type := .boolean, accessFlags := 4120, slot := 9, constantValue := 0 }]
  methods := #[k5m0, k5m1]
  instanceTypes := #[]
  staticTypes := #[.double, .double, .double, .double, .double, .long, .long, .double, .double, .boolean]
  resolved := Array.replicate 460 none
  statics := none }

def pool6 : Array CpInfo := pool [(2, .class_ 4), (1, u "java/lang/Object"), (0, u "<init>"), (0, u "()V"), (1, .class_ 10), (1, u "java/lang/System"), (0, u "allowSecurityManager"), (0, u "I"), (16, u "cons"), (0, u "Ljava/io/Console;"), (77, .class_ 110), (1, u "java/lang/System$CallersHolder"), (43, u "initialErrStream"), (0, u "Ljava/io/PrintStream;"), (19, u "security"), (0, u "Ljava/lang/SecurityManager;"), (31, .class_ 209), (0, u "java/lang/System$1"), (7, u "props"), (0, u "Ljava/util/Properties;"), (2, u "lineSeparator"), (0, u "Ljava/lang/String;"), (96, .class_ 321), (1, u "java/lang/System$LoggerFinder"), (5, .class_ 328), (0, u "java/lang/System$Logger"), (67, u "err"), (2, u "out"), (91, u "notSupportedJnuEncoding"), (15, u "in"), (17, u "initialIn"), (0, u "Ljava/io/InputStream;"), (35, u "bootLayer"), (0, u "Ljava/lang/ModuleLayer;"), (99, .class_ 664), (0, u "java/lang/System$2"), (9, u "NEVER"), (2, u "MAYBE"), (49, u "arraycopy"), (0, u "(Ljava/lang/Object;ILjava/lang/Object;II)V"), (72, .class_ 802), (0, u "java/lang/System$Logger$Level")] 31

def k6m0 : Method := { name := "<init>", desc := "()V", sig := { parameters := [], returnType := none }, accessFlags := 2, code := none }
def k6m1 : Method := { name := "arraycopy", desc := "(Ljava/lang/Object;ILjava/lang/Object;II)V", sig := { parameters := [(.object "java/lang/Object"), .int, (.object "java/lang/Object"), .int, .int], returnType := none }, accessFlags := 265, code := none }
/-- java/lang/System -/
def k6 : Class := { plain "java/lang/System" (some 0) with
  accessFlags := 49
  interfaces := #[]
  cf := some (fileOf pool6 8 #[.nestMembers #[319, 327, 801, 108, 663, 208]] #[{ accessFlags := 2, nameIndex := 5, descriptorIndex := 6, attributes := #[] }, { accessFlags := 265, nameIndex := 727, descriptorIndex := 728, attributes := #[] }] 49 2 #[] #[{ accessFlags := 25, nameIndex := 507, descriptorIndex := 526, attributes := #[] }, { accessFlags := 25, nameIndex := 399, descriptorIndex := 155, attributes := #[] }, { accessFlags := 25, nameIndex := 396, descriptorIndex := 155, attributes := #[] }, { accessFlags := 10, nameIndex := 525, descriptorIndex := 526, attributes := #[] }, { accessFlags := 26, nameIndex := 674, descriptorIndex := 12, attributes := #[] }, { accessFlags := 26, nameIndex := 677, descriptorIndex := 12, attributes := #[] }, { accessFlags := 10, nameIndex := 11, descriptorIndex := 12, attributes := #[] }, { accessFlags := 74, nameIndex := 175, descriptorIndex := 176, attributes := #[] }, { accessFlags := 10, nameIndex := 491, descriptorIndex := 222, attributes := #[] }, { accessFlags := 74, nameIndex := 29, descriptorIndex := 30, attributes := #[] }, { accessFlags := 74, nameIndex := 154, descriptorIndex := 155, attributes := #[] }, { accessFlags := 10, nameIndex := 217, descriptorIndex := 218, attributes := #[] }, { accessFlags := 10, nameIndex := 221, descriptorIndex := 222, attributes := #[] }, { accessFlags := 8, nameIndex := 562, descriptorIndex := 563, attributes := #[] }])
  fields := #[{ name := "in", type := (.object "java/io/InputStream"), accessFlags := 25, slot := 0, constantValue := 0 }, { name := "out", type := (.object "java/io/PrintStream"), accessFlags := 25, slot := 1, constantValue := 0 }, { name := "err", type := (.object "java/io/PrintStream"), accessFlags := 25, slot := 2, constantValue := 0 }, { name := "initialIn", type := (.object "java/io/InputStream"), accessFlags := 10, slot := 3, constantValue := 0 }, { name := "NEVER", type := .int, accessFlags := 26, slot := 4, constantValue := 0 }, { name := "MAYBE", type := .int, accessFlags := 26, slot := 5, constantValue := 0 }, { name := "allowSecurityManager", type := .int, accessFlags := 10, slot := 6, constantValue := 0 }, { name := "security", type := (.object "java/lang/SecurityManager"), accessFlags := 74, slot := 7, constantValue := 0 }, { name := "notSupportedJnuEncoding", type := (.object "java/lang/String"), accessFlags := 10, slot := 8, constantValue := 0 }, { name := "cons", type := (.object "java/io/Console"), accessFlags := 74, slot := 9, constantValue := 0 }, { name := "initialErrStream", type := (.object "java/io/PrintStream"), accessFlags := 74, slot := 10, constantValue := 0 }, { name := "props", type := (.object "java/util/Properties"), accessFlags := 10, slot := 11, constantValue := 0 }, { name := "lineSeparator", type := (.object "java/lang/String"), accessFlags := 10, slot := 12, constantValue := 0 }, { name := "bootLayer", type := (.object "java/lang/ModuleLayer"), accessFlags := 8, slot := 13, constantValue := 0 }]
  methods := #[k6m0, k6m1]
  instanceTypes := #[]
  staticTypes := #[(.object "java/io/InputStream"), (.object "java/io/PrintStream"), (.object "java/io/PrintStream"), (.object "java/io/InputStream"), .int, .int, .int, (.object "java/lang/SecurityManager"), (.object "java/lang/String"), (.object "java/io/Console"), (.object "java/io/PrintStream"), (.object "java/util/Properties"), (.object "java/lang/String"), (.object "java/lang/ModuleLayer")]
  resolved := Array.replicate 834 none
  statics := none }

def pool7 : Array CpInfo := pool [(2, .class_ 4), (1, u "java/lang/Object"), (0, u "<init>"), (0, u "()V"), (35, .class_ 44), (1, u "java/util/Objects"), (0, u "requireNonNull"), (0, u "(Ljava/lang/Object;)Ljava/lang/Object;")] 137

def k7m0 : Method := { name := "<init>", desc := "()V", sig := { parameters := [], returnType := none }, accessFlags := 2, code := none }
def k7c1 : Code := { maxStack := 2, maxLocals := 1, code := jdk_31_method_10_code, exceptionTable := #[], attributes := #[] }
def k7m1 : Method := { name := "requireNonNull", desc := "(Ljava/lang/Object;)Ljava/lang/Object;", sig := { parameters := [(.object "java/lang/Object")], returnType := some (.object "java/lang/Object") }, accessFlags := 9, code := some k7c1 }
/-- java/util/Objects -/
def k7 : Class := { plain "java/util/Objects" (some 0) with
  accessFlags := 49
  interfaces := #[]
  cf := some (fileOf pool7 42 #[] #[{ accessFlags := 2, nameIndex := 5, descriptorIndex := 6, attributes := #[] }, { accessFlags := 9, nameIndex := 45, descriptorIndex := 46, attributes := #[] }] 49 2 #[] #[])
  fields := #[]
  methods := #[k7m0, k7m1]
  instanceTypes := #[]
  staticTypes := #[]
  resolved := Array.replicate 184 none
  statics := none }

def pool8 : Array CpInfo := pool [(1, .class_ 2), (0, u "java/lang/Cloneable"), (0, .class_ 4), (0, u "java/lang/Object")] 2

/-- java/lang/Cloneable -/
def k8 : Class := { plain "java/lang/Cloneable" (some 0) with
  accessFlags := 1537
  interfaces := #[]
  cf := some (fileOf pool8 1 #[] #[] 1537 3 #[] #[])
  fields := #[]
  methods := #[]
  instanceTypes := #[]
  staticTypes := #[]
  resolved := Array.replicate 7 none
  statics := none }

def pool9 : Array CpInfo := pool [(1, u "java/io/Serializable"), (0, .class_ 1), (0, u "java/lang/Object"), (0, .class_ 3)] 3

/-- java/io/Serializable -/
def k9 : Class := { plain "java/io/Serializable" (some 0) with
  accessFlags := 1537
  interfaces := #[]
  cf := some (fileOf pool9 2 #[] #[] 1537 4 #[] #[])
  fields := #[]
  methods := #[]
  instanceTypes := #[]
  staticTypes := #[]
  resolved := Array.replicate 8 none
  statics := none }

/-- the primitive byte -/
def k10 : Class := { plain "byte" none with kind := .primitive 'B', accessFlags := 0x411 }
/-- [B -/
def k11 : Class := { plain "[B" (some 0) with kind := .array 10 .byte, interfaces := #[8, 9], accessFlags := 1041 }

/-- the primitive int -/
def k12 : Class := { plain "int" none with kind := .primitive 'I', accessFlags := 0x411 }
/-- [I -/
def k13 : Class := { plain "[I" (some 0) with kind := .array 12 .int, interfaces := #[8, 9], accessFlags := 1041 }

def heap : Heap := #[{ cls := 3, slots := #[.ref 1], vm := .statics 3 },
  { cls := 3, slots := #[.null], vm := .none }]
def classes : Array Class := #[k0, k1, k2, k3, k4, k5, k6, k7, k8, k9, k10, k11, k12, k13]
def interned : List (Array UInt16 × Addr) := []
def slotsUsed : Nat := 2
def theMethod : MethodId := ⟨1, 1⟩
def args0 : Array Value := #[.int 40, .long 1, .long 2, .long 3, .long 4, .int 5]
def aboutOver (below : List Frame) : State where
  vm := { classes := classes, interned := interned.toArray }
  heap := heap
  slotsUsed := slotsUsed
  threads := #[{ frames := .invoking theMethod args0 :: below }]
def below0 : List Frame := [.native { method := ⟨0, 0⟩, args := #[] }]
def about1 : State := aboutOver below0
def p0 : Program := .bare "" "" ""
def e0 : Env := launch0.env 0 0 0
theorem w_frames : about1.frames = Frame.invoking theMethod args0 :: below0 := rfl
set_option maxRecDepth 65536 in
theorem w_args : argsFit about1.vm theMethod args0 = true := by decide +kernel
set_option maxRecDepth 65536 in
theorem w_heap : heapFits about1 = true := by decide +kernel
set_option maxRecDepth 65536 in
theorem w_runnable : about1.curStatus? = some .runnable := by decide +kernel
set_option maxRecDepth 65536 in
theorem w_alone : about1.alone = true := by decide +kernel
set_option maxRecDepth 65536 in
theorem w_named : about1.methodNamed? x = some theMethod := by decide +kernel
set_option maxRecDepth 65536 in
theorem w_hears : about1.hears theMethod below0 = true := by decide +kernel
set_option maxRecDepth 65536 in
theorem w_ripe : about1.ripe theMethod args0 below0 = true := by decide +kernel
theorem w_running : about1.status = .running := rfl
set_option maxRecDepth 65536 in
theorem w_room : about1.hasRoom e0.platform room_1 = true :=
  launch0.hasRoom_least _ room_1 (by decide +kernel) (by decide +kernel) (by decide +kernel) (by decide +kernel) (by decide +kernel) (by decide +kernel)
theorem allAtoms_all (ts : List Jvm.Cond) (a : Array Jvm.Value) (st : Jvm.State) : (allAtoms ts).before a st = ts.all (fun c => c.before a st) := by
  induction ts with
  | nil => rfl
  | cons c t ih =>
    show (Jvm.Cond.and c (allAtoms t)).before a st = _
    rw [Jvm.Cond.before_and, ih, List.all_cons]
def words1 : List Jvm.Cond := Jvm.Cond.code x code maxLocals ret :: tables_1
/-- a 'code' word, met by the world's own term for the bytes: nothing is compared byte by byte -/
theorem code_word {y : MethodName} {bytes : ByteArray} {mx : Nat} {rt : Option FieldType} {a : Array Value} {s : State} {m : MethodId} {meth : Method} {c : Code} (h1 : s.methodNamed? y = some m) (h2 : s.vm.method? m = some meth) (h3 : meth.code = some c) (h4 : c.code = bytes)
    (h5 : (c.maxLocals == mx && c.exceptionTable.isEmpty && decide (c.maxStack ≤ mostOperands) && decide (meth.sig.returnType = rt) && !meth.locks && decide (parseMethodDescriptor y.desc = some meth.sig)) = true) : (Jvm.Cond.code y bytes mx rt).before a s = true := by
  simp only [Bool.and_eq_true, beq_iff_eq, Bool.not_eq_true', decide_eq_true_eq] at h5
  obtain ⟨⟨⟨⟨⟨g1, g2⟩, g3⟩, g4⟩, g5⟩, g6⟩ := h5
  simp [Cond.before, Cond.holds, Cond.value, h1, h2, h3, h4, g1, g2, g3, g4, g5, g6]
def isCode : Jvm.Cond → Bool
  | .code _ _ _ _ => true
  | _ => false
theorem all_split {L : List Jvm.Cond} {P : Jvm.Cond → Bool} (h1 : L.all (fun c => isCode c || P c) = true) (h2 : ∀ c ∈ L.filter isCode, P c = true) : L.all P = true := by
  refine List.all_eq_true.mpr fun c hc => ?_
  have h := List.all_eq_true.mp h1 c hc
  rcases Bool.eq_false_or_eq_true (isCode c) with hi | hi
  · exact h2 c (List.mem_filter.mpr ⟨hc, hi⟩)
  · simpa [hi] using h
set_option maxRecDepth 65536 in
theorem w_c0 : (Jvm.Cond.code x code maxLocals ret).before args0 about1 = true := code_word (m := ⟨1, 1⟩) (meth := k1m1) (c := k1c1) (by decide +kernel) rfl rfl rfl (by decide +kernel)
set_option maxRecDepth 65536 in
theorem w_c1 : (Jvm.Cond.code ({ cls := "com/example/tasdik/tasdik/core/appattest/AuthenticatorData", name := "ofAssertion", desc := "([B)Ljava/util/Optional;" } : Jvm.MethodName) prog_14_method_2_code (1 : Nat) (Option.some (Jvm.ClassFile.FieldType.object "java/util/Optional"))).before args0 about1 = true := code_word (m := ⟨2, 1⟩) (meth := k2m1) (c := k2c1) (by decide +kernel) rfl rfl rfl (by decide +kernel)
set_option maxRecDepth 65536 in
theorem w_c2 : (Jvm.Cond.code ({ cls := "java/util/Optional", name := "empty", desc := "()Ljava/util/Optional;" } : Jvm.MethodName) jdk_32_method_1_code (1 : Nat) (Option.some (Jvm.ClassFile.FieldType.object "java/util/Optional"))).before args0 about1 = true := code_word (m := ⟨3, 0⟩) (meth := k3m0) (c := k3c0) (by decide +kernel) rfl rfl rfl (by decide +kernel)
set_option maxRecDepth 65536 in
theorem w_c3 : (Jvm.Cond.code ({ cls := "java/util/Optional", name := "isPresent", desc := "()Z" } : Jvm.MethodName) jdk_32_method_6_code (1 : Nat) (Option.some Jvm.ClassFile.FieldType.boolean)).before args0 about1 = true := code_word (m := ⟨3, 4⟩) (meth := k3m4) (c := k3c4) (by decide +kernel) rfl rfl rfl (by decide +kernel)
set_option maxRecDepth 65536 in
theorem w_c4 : (Jvm.Cond.code ({ cls := "com/example/tasdik/tasdik/core/appattest/AuthenticatorDataOfAssertionPinLaw", name := "put8", desc := "([BIJ)V" } : Jvm.MethodName) method_3_code (4 : Nat) (Option.none : Option Jvm.ClassFile.FieldType)).before args0 about1 = true := code_word (m := ⟨1, 2⟩) (meth := k1m2) (c := k1c2) (by decide +kernel) rfl rfl rfl (by decide +kernel)
set_option maxRecDepth 65536 in
theorem w_c5 : (Jvm.Cond.code ({ cls := "com/example/tasdik/tasdik/core/appattest/AuthenticatorData", name := "<init>", desc := "([B[B[B)V" } : Jvm.MethodName) prog_14_method_1_code (4 : Nat) (Option.none : Option Jvm.ClassFile.FieldType)).before args0 about1 = true := code_word (m := ⟨2, 0⟩) (meth := k2m0) (c := k2c0) (by decide +kernel) rfl rfl rfl (by decide +kernel)
set_option maxRecDepth 65536 in
theorem w_c6 : (Jvm.Cond.code ({ cls := "java/lang/Object", name := "<init>", desc := "()V" } : Jvm.MethodName) object_method_1_code (1 : Nat) (Option.none : Option Jvm.ClassFile.FieldType)).before args0 about1 = true := code_word (m := ⟨0, 0⟩) (meth := k0m0) (c := k0c0) (by decide +kernel) rfl rfl rfl (by decide +kernel)
set_option maxRecDepth 65536 in
theorem w_c7 : (Jvm.Cond.code ({ cls := "java/util/Arrays", name := "copyOf", desc := "([BI)[B" } : Jvm.MethodName) jdk_65_method_121_code (3 : Nat) (Option.some (Jvm.ClassFile.FieldType.array Jvm.ClassFile.FieldType.byte))).before args0 about1 = true := code_word (m := ⟨4, 1⟩) (meth := k4m1) (c := k4c1) (by decide +kernel) rfl rfl rfl (by decide +kernel)
set_option maxRecDepth 65536 in
theorem w_c8 : (Jvm.Cond.code ({ cls := "java/lang/Math", name := "min", desc := "(II)I" } : Jvm.MethodName) jdk_29_method_69_code (2 : Nat) (Option.some Jvm.ClassFile.FieldType.int)).before args0 about1 = true := code_word (m := ⟨5, 1⟩) (meth := k5m1) (c := k5c1) (by decide +kernel) rfl rfl rfl (by decide +kernel)
set_option maxRecDepth 65536 in
theorem w_c9 : (Jvm.Cond.code ({ cls := "com/example/tasdik/tasdik/core/appattest/AuthenticatorData", name := "bigEndian", desc := "([BII)J" } : Jvm.MethodName) prog_14_method_4_code (6 : Nat) (Option.some Jvm.ClassFile.FieldType.long)).before args0 about1 = true := code_word (m := ⟨2, 2⟩) (meth := k2m2) (c := k2c2) (by decide +kernel) rfl rfl rfl (by decide +kernel)
set_option maxRecDepth 65536 in
theorem w_c10 : (Jvm.Cond.code ({ cls := "java/util/Optional", name := "of", desc := "(Ljava/lang/Object;)Ljava/util/Optional;" } : Jvm.MethodName) jdk_32_method_3_code (1 : Nat) (Option.some (Jvm.ClassFile.FieldType.object "java/util/Optional"))).before args0 about1 = true := code_word (m := ⟨3, 2⟩) (meth := k3m2) (c := k3c2) (by decide +kernel) rfl rfl rfl (by decide +kernel)
set_option maxRecDepth 65536 in
theorem w_c11 : (Jvm.Cond.code ({ cls := "java/util/Objects", name := "requireNonNull", desc := "(Ljava/lang/Object;)Ljava/lang/Object;" } : Jvm.MethodName) jdk_31_method_10_code (1 : Nat) (Option.some (Jvm.ClassFile.FieldType.object "java/lang/Object"))).before args0 about1 = true := code_word (m := ⟨7, 1⟩) (meth := k7m1) (c := k7c1) (by decide +kernel) rfl rfl rfl (by decide +kernel)
set_option maxRecDepth 65536 in
theorem w_c12 : (Jvm.Cond.code ({ cls := "java/util/Optional", name := "<init>", desc := "(Ljava/lang/Object;)V" } : Jvm.MethodName) jdk_32_method_2_code (2 : Nat) (Option.none : Option Jvm.ClassFile.FieldType)).before args0 about1 = true := code_word (m := ⟨3, 1⟩) (meth := k3m1) (c := k3c1) (by decide +kernel) rfl rfl rfl (by decide +kernel)
set_option maxRecDepth 65536 in
theorem w_c13 : (Jvm.Cond.code ({ cls := "java/util/Optional", name := "get", desc := "()Ljava/lang/Object;" } : Jvm.MethodName) jdk_32_method_5_code (1 : Nat) (Option.some (Jvm.ClassFile.FieldType.object "java/lang/Object"))).before args0 about1 = true := code_word (m := ⟨3, 3⟩) (meth := k3m3) (c := k3c3) (by decide +kernel) rfl rfl rfl (by decide +kernel)
set_option maxRecDepth 65536 in
theorem w_c14 : (Jvm.Cond.code ({ cls := "com/example/tasdik/tasdik/core/appattest/AuthenticatorData", name := "rpIdHash", desc := "()[B" } : Jvm.MethodName) prog_14_method_5_code (1 : Nat) (Option.some (Jvm.ClassFile.FieldType.array Jvm.ClassFile.FieldType.byte))).before args0 about1 = true := code_word (m := ⟨2, 3⟩) (meth := k2m3) (c := k2c3) (by decide +kernel) rfl rfl rfl (by decide +kernel)
set_option maxRecDepth 65536 in
theorem w_c15 : (Jvm.Cond.code ({ cls := "com/example/tasdik/tasdik/core/appattest/AuthenticatorData", name := "counter", desc := "()J" } : Jvm.MethodName) prog_14_method_6_code (1 : Nat) (Option.some Jvm.ClassFile.FieldType.long)).before args0 about1 = true := code_word (m := ⟨2, 4⟩) (meth := k2m4) (c := k2c4) (by decide +kernel) rfl rfl rfl (by decide +kernel)
set_option maxRecDepth 65536 in
theorem w_c16 : (Jvm.Cond.code ({ cls := "com/example/tasdik/tasdik/core/appattest/AuthenticatorDataOfAssertionPinLaw", name := "eq8", desc := "([BIJ)Z" } : Jvm.MethodName) method_4_code (4 : Nat) (Option.some Jvm.ClassFile.FieldType.boolean)).before args0 about1 = true := code_word (m := ⟨1, 3⟩) (meth := k1m3) (c := k1c3) (by decide +kernel) rfl rfl rfl (by decide +kernel)
def codes1 : List Jvm.Cond := [Jvm.Cond.code x code maxLocals ret, Jvm.Cond.code ({ cls := "com/example/tasdik/tasdik/core/appattest/AuthenticatorData", name := "ofAssertion", desc := "([B)Ljava/util/Optional;" } : Jvm.MethodName) prog_14_method_2_code (1 : Nat) (Option.some (Jvm.ClassFile.FieldType.object "java/util/Optional")), Jvm.Cond.code ({ cls := "java/util/Optional", name := "empty", desc := "()Ljava/util/Optional;" } : Jvm.MethodName) jdk_32_method_1_code (1 : Nat) (Option.some (Jvm.ClassFile.FieldType.object "java/util/Optional")), Jvm.Cond.code ({ cls := "java/util/Optional", name := "isPresent", desc := "()Z" } : Jvm.MethodName) jdk_32_method_6_code (1 : Nat) (Option.some Jvm.ClassFile.FieldType.boolean), Jvm.Cond.code ({ cls := "com/example/tasdik/tasdik/core/appattest/AuthenticatorDataOfAssertionPinLaw", name := "put8", desc := "([BIJ)V" } : Jvm.MethodName) method_3_code (4 : Nat) (Option.none : Option Jvm.ClassFile.FieldType), Jvm.Cond.code ({ cls := "com/example/tasdik/tasdik/core/appattest/AuthenticatorData", name := "<init>", desc := "([B[B[B)V" } : Jvm.MethodName) prog_14_method_1_code (4 : Nat) (Option.none : Option Jvm.ClassFile.FieldType), Jvm.Cond.code ({ cls := "java/lang/Object", name := "<init>", desc := "()V" } : Jvm.MethodName) object_method_1_code (1 : Nat) (Option.none : Option Jvm.ClassFile.FieldType), Jvm.Cond.code ({ cls := "java/util/Arrays", name := "copyOf", desc := "([BI)[B" } : Jvm.MethodName) jdk_65_method_121_code (3 : Nat) (Option.some (Jvm.ClassFile.FieldType.array Jvm.ClassFile.FieldType.byte)), Jvm.Cond.code ({ cls := "java/lang/Math", name := "min", desc := "(II)I" } : Jvm.MethodName) jdk_29_method_69_code (2 : Nat) (Option.some Jvm.ClassFile.FieldType.int), Jvm.Cond.code ({ cls := "com/example/tasdik/tasdik/core/appattest/AuthenticatorData", name := "bigEndian", desc := "([BII)J" } : Jvm.MethodName) prog_14_method_4_code (6 : Nat) (Option.some Jvm.ClassFile.FieldType.long), Jvm.Cond.code ({ cls := "java/util/Optional", name := "of", desc := "(Ljava/lang/Object;)Ljava/util/Optional;" } : Jvm.MethodName) jdk_32_method_3_code (1 : Nat) (Option.some (Jvm.ClassFile.FieldType.object "java/util/Optional")), Jvm.Cond.code ({ cls := "java/util/Objects", name := "requireNonNull", desc := "(Ljava/lang/Object;)Ljava/lang/Object;" } : Jvm.MethodName) jdk_31_method_10_code (1 : Nat) (Option.some (Jvm.ClassFile.FieldType.object "java/lang/Object")), Jvm.Cond.code ({ cls := "java/util/Optional", name := "<init>", desc := "(Ljava/lang/Object;)V" } : Jvm.MethodName) jdk_32_method_2_code (2 : Nat) (Option.none : Option Jvm.ClassFile.FieldType), Jvm.Cond.code ({ cls := "java/util/Optional", name := "get", desc := "()Ljava/lang/Object;" } : Jvm.MethodName) jdk_32_method_5_code (1 : Nat) (Option.some (Jvm.ClassFile.FieldType.object "java/lang/Object")), Jvm.Cond.code ({ cls := "com/example/tasdik/tasdik/core/appattest/AuthenticatorData", name := "rpIdHash", desc := "()[B" } : Jvm.MethodName) prog_14_method_5_code (1 : Nat) (Option.some (Jvm.ClassFile.FieldType.array Jvm.ClassFile.FieldType.byte)), Jvm.Cond.code ({ cls := "com/example/tasdik/tasdik/core/appattest/AuthenticatorData", name := "counter", desc := "()J" } : Jvm.MethodName) prog_14_method_6_code (1 : Nat) (Option.some Jvm.ClassFile.FieldType.long), Jvm.Cond.code ({ cls := "com/example/tasdik/tasdik/core/appattest/AuthenticatorDataOfAssertionPinLaw", name := "eq8", desc := "([BIJ)Z" } : Jvm.MethodName) method_4_code (4 : Nat) (Option.some Jvm.ClassFile.FieldType.boolean)]
set_option maxRecDepth 65536 in
theorem codes_eq : words1.filter isCode = codes1 := rfl
theorem w_codes : ∀ c ∈ words1.filter isCode, c.before args0 about1 = true := by
  rw [codes_eq]
  intro c hc
  simp only [codes1, List.mem_cons, List.not_mem_nil, or_false] at hc
  rcases hc with rfl | rfl | rfl | rfl | rfl | rfl | rfl | rfl | rfl | rfl | rfl | rfl | rfl | rfl | rfl | rfl | rfl
  · exact w_c0
  · exact w_c1
  · exact w_c2
  · exact w_c3
  · exact w_c4
  · exact w_c5
  · exact w_c6
  · exact w_c7
  · exact w_c8
  · exact w_c9
  · exact w_c10
  · exact w_c11
  · exact w_c12
  · exact w_c13
  · exact w_c14
  · exact w_c15
  · exact w_c16
set_option maxRecDepth 65536 in
theorem w_t1 : (words1.take 24).all (fun c => isCode c || c.before args0 about1) = true := by decide +kernel
set_option maxRecDepth 65536 in
theorem w_t2 : ((words1.drop 24).take 24).all (fun c => isCode c || c.before args0 about1) = true := by decide +kernel
set_option maxRecDepth 65536 in
theorem w_t3 : (((words1.drop 24).drop 24).take 24).all (fun c => isCode c || c.before args0 about1) = true := by decide +kernel
set_option maxRecDepth 65536 in
theorem w_t4 : ((((words1.drop 24).drop 24).drop 24).take 24).all (fun c => isCode c || c.before args0 about1) = true := by decide +kernel
set_option maxRecDepth 65536 in
theorem w_t5 : ((((words1.drop 24).drop 24).drop 24).drop 24).all (fun c => isCode c || c.before args0 about1) = true := by decide +kernel
theorem w_tables : (allAtoms (Jvm.Cond.code x code maxLocals ret :: tables_1)).before args0 about1 = true := by
  rw [allAtoms_all]
  show words1.all (fun c => c.before args0 about1) = true
  refine all_split ?_ w_codes
  rw [← List.take_append_drop 24 words1, List.all_append, w_t1, ← List.take_append_drop 24 (words1.drop 24), List.all_append, w_t2, ← List.take_append_drop 24 ((words1.drop 24).drop 24), List.all_append, w_t3, ← List.take_append_drop 24 (((words1.drop 24).drop 24).drop 24), List.all_append, w_t4, w_t5]
  rfl
set_option maxRecDepth 65536 in
theorem w_rest : rest_1_c.before args0 about1 = true := by decide +kernel
set_option maxRecDepth 65536 in
theorem w_case : (Jvm.Cond.and given_1 narrow_1).before args0 about1 = true := by decide +kernel
theorem w_applies : (headSpec (Jvm.Cond.code x code maxLocals ret :: tables_1) room_1).applies x e0.platform about1 = true :=
  (Spec.applies_iff w_frames).mpr ⟨w_running, w_runnable, w_alone, w_named, w_hears, w_ripe, w_room, w_tables⟩
theorem atStart : AtStart classFile x code maxLocals ret World_1 tables_1 room_1 Calls_1 rest_1 Pre_1 launch0 p0 e0 about1 theMethod args0 below0 :=
  ⟨lists_1, trivial, launch0.admits_env _ _ _, launch0.least_env, fairChoices_fair.cas, fairChoices_fair.clock, w_frames, w_args, w_heap, w_applies, trivial, w_rest, w_case⟩
end start1
theorem witness_1 : WitnessClaimed_1 := ⟨start1.p0, start1.e0, start1.about1, start1.theMethod, start1.args0, start1.below0, start1.atStart⟩
end Jvm.Pilot.@@N@@
