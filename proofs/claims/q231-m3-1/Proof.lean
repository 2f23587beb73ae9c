import JvmDerived
import JvmDerived.Pilot.@@N@@Statement
import JvmDerived.Pilot.@@N@@Code
set_option linter.unusedVariables false
set_option linter.unusedSimpArgs false
namespace Jvm.Pilot.@@N@@
open Jvm Jvm.ClassFile Sem Op Lib Jvm.Free Jvm.Stand Jvm.LawKit Jvm.RoadKit Bundle Jvm.Pilot.@@N@@.Jvm.D
abbrev own_H (a0 : Array Value) (Z : State) : Prop := ∀ d ∈ tables_1, d.before a0 Z = true
theorem own_w {a0 : Array Value} {Z : State} (hw : ∀ d ∈ tables_1, d.before a0 Z = true) (i : Nat) {d : Jvm.Cond} (h : tables_1[i]? = some d) : d.before a0 Z = true := hw _ (List.mem_of_getElem? h)
section Own
variable {p : Program} {l : Launch} {e : Env} {R : Room} {s : State} {m : MethodId} {args : Array Value} {below : List Frame} {meth : Method} {c : Code} {T : State} {locs : List Loc} {cells slots : Nat} {Z : State} {a0 : Array Value} {h : Heap}
def own_Go (p : Program) (e : Env) (below : List Frame) (P : Outcome → State → Prop) (U : State) : Prop := ∃ s₂ o, Steps p.tables e below U s₂ ∧ s₂.status = .running ∧ Ended s₂ below o ∧ P o s₂
theorem own_st {P : Outcome → State → Prop} {U V : State} (k : ∀ t, Steps p.tables e below U t → Steps p.tables e below V t) (h : own_Go p e below P U) : own_Go p e below P V := by
  obtain ⟨a, b, c, d⟩ := h; exact ⟨a, b, k _ c, d⟩
def own_P (s : State) (Q : Option Value → Heap → List Loc → Prop) (rc rs : Nat) (o : Outcome) (U : State) : Prop := ∃ v L, o = .returned v ∧ Q v U.heap L ∧ FrameEnd s o U L rc rs
theorem own_ret (X : Stand p l e R s m args below meth c T locs cells slots) {Q : Option Value → Heap → List Loc → Prop} {rc rs : Nat} {g : JFrame} {v : Option Value} (hlk : meth.locks = false) (hv : meth.sig.returnType = none → v = none) (hq : Q v T.heap locs) (hc : cells ≤ rc) (hl : slots ≤ rs)
    (k : ∀ fs, (∀ (f : JFrame) (acts : List Action), f.method = m → f.locked = none → f.entered = [] → (doReturn e (T.setTop f) acts v).1 = T.setFrames fs) → Steps p.tables e below (T.setTop g) (T.setFrames fs)) : own_Go p e below (own_P s Q rc rs) (T.setTop g) := by
  obtain ⟨fs, hr, hrun, hended, hW, hsame⟩ := X.leave (v := v) hv hlk
  exact ⟨_, _, k fs hr, hrun, hended, _, _, rfl, hq, ⟨_, rfl⟩, hW, hsame.mono hc hl⟩
theorem own_retV (X : Stand p l e R s m args below meth c T locs cells slots) (hx : p.tables.exec = Jvm.exec) {Q : Option Value → Heap → List Loc → Prop} {rc rs pc : Nat} {Ls : Array Slot} (hlk : meth.locks = false) (hret : meth.sig.returnType = none) (hd : decode c.code pc = .ok (.return_, 1)) (hc : cells ≤ rc) (hl : slots ≤ rs) (hq : Q none T.heap locs) : own_Go p e below (own_P s Q rc rs) (T.setTop (mkF m pc Ls [])) :=
  own_ret X hlk (fun _ => rfl) hq hc hl fun _ hr => X.returnOut hx hret hd hr
theorem own_retX (X : Stand p l e R s m args below meth c T locs cells slots) (hx : p.tables.exec = Jvm.exec) {Q : Option Value → Heap → List Loc → Prop} {rc rs pc : Nat} {Ls : Array Slot} {w : Value} {t : FieldType} {i : Instr} {rest : List Value} (hlk : meth.locks = false) (hret : meth.sig.returnType = some t) (hn : narrow t w = w)
    (hi : (i = .ireturn ∧ (t = .int ∨ t = .boolean ∨ t = .byte ∨ t = .char ∨ t = .short) ∧ ∃ z, w = .int z) ∨ (i = .lreturn ∧ t = .long ∧ ∃ z, w = .long z) ∨ (i = .dreturn ∧ t = .double ∧ ∃ z, w = .double z) ∨ (i = .freturn ∧ t = .float ∧ ∃ z, w = .float z) ∨ (i = .areturn ∧ t.isReference = true ∧ w.isRef = true))
    (hd : decode c.code pc = .ok (i, 1)) (hc : cells ≤ rc) (hl : slots ≤ rs) (hq : Q (some w) T.heap locs) : own_Go p e below (own_P s Q rc rs) (T.setTop (mkF m pc Ls (w :: rest))) :=
  own_ret X hlk (fun q => by rw [hret] at q; cases q) hq hc hl fun _ hr => retOut X hx hret hn hi hd hr
theorem own_body {y : MethodName} {bytes : ByteArray} {maxL : Nat} {ret : Option FieldType} {rm : Room} {ws : List Cond} {as' : Array Value} {Q : Option Value → Heap → List Loc → Prop} (hn : plainFor y = true)
    (b : ∀ (p : Program) (e : Env) (s : State) (m : MethodId) (below : List Frame) (meth : Method) (c : Code) (s₁ : State), p.tables.exec = Jvm.exec → c.code = bytes → c.maxLocals = maxL → s.vm.findClass y.cls = some m.cls → meth.name = y.name → meth.sig.returnType = ret → meth.locks = false → Z.Warmed39 s.vm → s₁.heap = h → Stand p l e rm s m as' below meth c s₁ [] 0 0 →
      own_Go p e below (own_P s Q rm.cells rm.slots) (s₁.setTop (entryFrame m as' maxL))) :
    MetFree l y (head1 (Cond.code y bytes maxL ret :: ws) rm) (fun a U => a = as' ∧ Z.Warmed39 U.vm ∧ U.heap = h) (fun _ _ _ _ _ => True) (fun _ U o U' => ∃ v L, o = .returned v ∧ Q v U'.heap L ∧ FrameEnd U o U' L rm.cells rm.slots) := by
  refine MetFree.of_bodySF hn hisR ?_
  intro p e s m args below meth c s₁ Bd hml0 hP hK
  obtain ⟨rfl, hZ, hh⟩ := hP
  exact b p e s m below meth c s₁ Bd.exec Bd.bytes hml0 (findClass_of_methodNamed Bd.named) (name_of_methodNamed Bd.named Bd.method).1 Bd.returns Bd.notSynchronized hZ (by rw [← hh, Bd.state]; rfl) (Stand.of_body Bd)
abbrev own_Met (l : Launch) (y : MethodName) (bytes : ByteArray) (maxL : Nat) (ret : Option FieldType) (ws : List Cond) (rm : Room) (Z : State) (h : Heap) (as' : Array Value) (Q : Option Value → Heap → List Loc → Prop) : Prop :=
  MetFree l y (head1 (Cond.code y bytes maxL ret :: ws) rm) (fun a U => a = as' ∧ Z.Warmed39 U.vm ∧ U.heap = h) (fun _ _ _ _ _ => True) (fun _ U o U' => ∃ v L, o = .returned v ∧ Q v U'.heap L ∧ FrameEnd U o U' L rm.cells rm.slots)
abbrev own_Came (p : Program) (l : Launch) (e : Env) (R : Room) (s : State) (m : MethodId) (args : Array Value) (below : List Frame) (meth : Method) (c : Code) (T : State) (locs : List Loc) (cells slots : Nat) (g : JFrame) (len : Nat) (rest : List Value) (Q : Option Value → Heap → List Loc → Prop) : Prop :=
  ∃ (T' : State) (v : Option Value) (L : List Loc), Stand p l e R s m args below meth c T' (locs ++ L) cells slots ∧ Q v T'.heap L ∧ ∀ t, Steps p.tables e below (T'.setTop { g with pc := g.pc + len, stack := v.toList ++ rest }) t → Steps p.tables e below (T.setTop g) t
theorem own_callS (X : Stand p l e R s m args below meth c T locs cells slots) (hx : p.tables.exec = Jvm.exec) (hZ : Z.Warmed39 s.vm) {own : String} {index : Nat} {y : MethodName} {bytes : ByteArray} {maxL : Nat} {ret : Option FieldType} {rm : Room} {as' : Array Value} {Q : Option Value → Heap → List Loc → Prop}
    (hown : s.vm.findClass own = some m.cls) (w1 : (Cond.methodLink own index y).before a0 Z = true) (w2 : (Cond.static y).before a0 Z = true) (w3 : (Cond.initialized y.cls).before a0 Z = true) (w4 : (Cond.code y bytes maxL ret).before a0 Z = true)
    (hy : y.cls ≠ "java/lang/invoke/MethodHandle" ∧ y.cls ≠ "java/lang/invoke/VarHandle") (hM : own_Met l y bytes maxL ret [] rm Z h as' Q) (eT : T.heap = h) {ps : List FieldType} {r : Option FieldType} (hd : parseMethodDescriptor y.desc = some ⟨ps, r⟩) {argsL rest : List Value} (hl : argsL.length = ps.length) (ha : argsL.toArray = as')
    {g : JFrame} (hg : g.method = m) (hsize : g.locals.size = c.maxLocals) (hstack : g.stack = argsL.reverse ++ rest) (hdg : decode c.code g.pc = .ok (.invokestatic index, 3)) {W : Nat} (hW : 2 * g.monitorRoom + (rest.map fun v => v.category).sum = W) (h1 : rm.frames + 1 ≤ R.frames) (h2 : W + (maxL + 11) + rm.locals ≤ R.locals) (h3 : cells + rm.cells ≤ R.cells) (h4 : slots + rm.slots ≤ R.slots) :
    own_Came p l e R s m args below meth c T locs (cells + rm.cells) (slots + rm.slots) g 3 rest Q := by
  obtain ⟨v, _, ⟨T', L', k', n'⟩, -, X', ⟨Lc, hQ, l1, y1, z1⟩, st⟩ := Jvm.LawKit.callS X hx (y := y) hown (mvT hZ w1) (mvT hZ w2) (mvT hZ w3) (mvT hZ w4) hy (backOf (W := W) hM hZ w4 w3 h1 h2) (g := g) hg hsize (argsL := argsL) (rest := rest) (lenOf hd hl) hstack (Nat.le_of_eq hW) hdg (fun _ _ => ⟨ha, eT, h3, h4⟩)
  dsimp only [Pt.U, Pt.locs, Pt.cells, Pt.slots] at X' l1 y1 z1 st hQ
  subst l1 y1 z1
  exact ⟨T', v, Lc, X', hQ, st⟩
theorem own_callN (X : Stand p l e R s m args below meth c T locs cells slots) (hx : p.tables.exec = Jvm.exec) (hZ : Z.Warmed39 s.vm) {own : String} {index : Nat} {y : MethodName} {bytes : ByteArray} {maxL : Nat} {rm : Room} {as' : Array Value} {Q : Option Value → Heap → List Loc → Prop} (hy1 : y.name = "<init>")
    (hown : s.vm.findClass own = some m.cls) (w1 : (Cond.methodLink own index y).before a0 Z = true) (w2 : (Cond.instanceMethod y).before a0 Z = true) (w3 : (Cond.initialized y.cls).before a0 Z = true) (w4 : (Cond.code y bytes maxL none).before a0 Z = true)
    (hy : y.cls ≠ "java/lang/invoke/MethodHandle" ∧ y.cls ≠ "java/lang/invoke/VarHandle") (hM : own_Met l y bytes maxL none [] rm Z h as' Q) (eT : T.heap = h) {ps : List FieldType} {r : Option FieldType} (hd : parseMethodDescriptor y.desc = some ⟨ps, r⟩) {a : Addr} {argsL rest : List Value} (hl : argsL.length = ps.length) (ha : (.ref a :: argsL).toArray = as')
    {g : JFrame} (hg : g.method = m) (hsize : g.locals.size = c.maxLocals) (hstack : g.stack = argsL.reverse ++ .ref a :: rest) (hdg : decode c.code g.pc = .ok (.invokespecial index, 3)) {W : Nat} (hW : 2 * g.monitorRoom + (rest.map fun v => v.category).sum = W) (h1 : rm.frames + 1 ≤ R.frames) (h2 : W + (maxL + 11) + rm.locals ≤ R.locals) (h3 : cells + rm.cells ≤ R.cells) (h4 : slots + rm.slots ≤ R.slots) :
    own_Came p l e R s m args below meth c T locs (cells + rm.cells) (slots + rm.slots) g 3 rest Q := by
  obtain ⟨v, _, ⟨T', L', k', n'⟩, -, X', ⟨Lc, hQ, l1, y1, z1⟩, st⟩ := X.specialBack hx (y := y) hy1 hown (mvT hZ w1) (mvT hZ w2) (mvT hZ w4) hy (backOf (W := W) hM hZ w4 w3 h1 h2) (g := g) hg hsize (Steps.refl _) (a := a) (argsL := argsL) (rest := rest) (lenOf hd hl) hstack (Nat.le_of_eq hW) hdg (fun _ _ => ⟨ha, eT, h3, h4⟩)
  dsimp only [Pt.U, Pt.locs, Pt.cells, Pt.slots] at X' l1 y1 z1 st hQ
  subst l1 y1 z1
  exact ⟨T', v, Lc, X', hQ, fun _ k => st.trans k⟩
theorem own_callV (X : Stand p l e R s m args below meth c T locs cells slots) (hx : p.tables.exec = Jvm.exec) (hZ : Z.Warmed39 s.vm) {own C : String} {index : Nat} {y z : MethodName} {bytes : ByteArray} {maxL : Nat} {ret : Option FieldType} {rm : Room} {as' : Array Value} {Q : Option Value → Heap → List Loc → Prop}
    (hown : s.vm.findClass own = some m.cls) (w1 : (Cond.methodLink own index y).before a0 Z = true) (w2 : (Cond.declares y).before a0 Z = true) (hnf : NotFace s y) (w5 : (Cond.selects C y z).before a0 Z = true) (w6 : (Cond.instanceMethod z).before a0 Z = true) (w3 : (Cond.initialized z.cls).before a0 Z = true) (w4 : (Cond.code z bytes maxL ret).before a0 Z = true)
    (hy : y.cls ≠ "java/lang/invoke/MethodHandle" ∧ y.cls ≠ "java/lang/invoke/VarHandle") (hM : own_Met l z bytes maxL ret [] rm Z h as' Q) (eT : T.heap = h) {a : Addr} (E : Exa Z h a C) {ps : List FieldType} {r : Option FieldType} (hd : parseMethodDescriptor y.desc = some ⟨ps, r⟩) {argsL rest : List Value} (hl : argsL.length = ps.length) (ha : (.ref a :: argsL).toArray = as')
    {g : JFrame} (hg : g.method = m) (hsize : g.locals.size = c.maxLocals) (hstack : g.stack = argsL.reverse ++ .ref a :: rest) (hdg : decode c.code g.pc = .ok (.invokevirtual index, 3)) {W : Nat} (hW : 2 * g.monitorRoom + (rest.map fun v => v.category).sum = W) (h1 : rm.frames + 1 ≤ R.frames) (h2 : W + (maxL + 11) + rm.locals ≤ R.locals) (h3 : cells + rm.cells ≤ R.cells) (h4 : slots + rm.slots ≤ R.slots) :
    own_Came p l e R s m args below meth c T locs (cells + rm.cells) (slots + rm.slots) g 3 rest Q := by
  obtain ⟨cq, kq, qa, qb, qc⟩ := isOf hZ eT E
  obtain ⟨v, _, ⟨T', L', k', n'⟩, -, X', ⟨Lc, hQ, l1, y1, z1⟩, st⟩ := X.virtualBack hx (y := y) (z := z) hown (mvT hZ w1) (mvT hZ w2) hnf (mvT hZ w5) (mvT hZ w6) hy (backOf (W := W) hM hZ w4 w3 h1 h2) qa qc (g := g) hg hsize (Steps.refl _) (argsL := argsL) (rest := rest) (lenOf hd hl) hstack (Nat.le_of_eq hW) hdg (fun _ _ => ⟨ha, eT, h3, h4⟩)
  dsimp only [Pt.U, Pt.locs, Pt.cells, Pt.slots] at X' l1 y1 z1 st hQ
  subst l1 y1 z1
  exact ⟨T', v, Lc, X', hQ, fun _ k => st.trans k⟩
theorem own_callU (X : Stand p l e R s m args below meth c T locs cells slots) (hx : p.tables.exec = Jvm.exec) (hZ : Z.Warmed39 s.vm) {own C owner : String} {index : Nat} {y z : MethodName} {bytes : ByteArray} {maxL : Nat} {ret : Option FieldType} {rm : Room} {as' : Array Value} {Q : Option Value → Heap → List Loc → Prop}
    (hown : s.vm.findClass own = some m.cls) (w1 : (Cond.methodLink own index y).before a0 Z = true) (w7 : (Cond.sameMethod y.cls owner y.name y.desc).before a0 Z = true) (w2 : (Cond.declares ⟨owner, y.name, y.desc⟩).before a0 Z = true) (w5 : (Cond.selects C y z).before a0 Z = true) (w6 : (Cond.instanceMethod z).before a0 Z = true) (w3 : (Cond.initialized z.cls).before a0 Z = true) (w4 : (Cond.code z bytes maxL ret).before a0 Z = true)
    (hy : owner ≠ "java/lang/invoke/MethodHandle" ∧ owner ≠ "java/lang/invoke/VarHandle") (hM : own_Met l z bytes maxL ret [] rm Z h as' Q) (eT : T.heap = h) {a : Addr} (E : Exa Z h a C) {ps : List FieldType} {r : Option FieldType} (hd : parseMethodDescriptor y.desc = some ⟨ps, r⟩) {argsL rest : List Value} (hl : argsL.length = ps.length) (ha : (.ref a :: argsL).toArray = as')
    {g : JFrame} (hg : g.method = m) (hsize : g.locals.size = c.maxLocals) (hstack : g.stack = argsL.reverse ++ .ref a :: rest) (hdg : decode c.code g.pc = .ok (.invokevirtual index, 3)) {W : Nat} (hW : 2 * g.monitorRoom + (rest.map fun v => v.category).sum = W) (h1 : rm.frames + 1 ≤ R.frames) (h2 : W + (maxL + 11) + rm.locals ≤ R.locals) (h3 : cells + rm.cells ≤ R.cells) (h4 : slots + rm.slots ≤ R.slots) :
    own_Came p l e R s m args below meth c T locs (cells + rm.cells) (slots + rm.slots) g 3 rest Q := by
  obtain ⟨cq, kq, qa, qb, qc⟩ := isOf hZ eT E
  obtain ⟨v, _, ⟨T', L', k', n'⟩, -, X', ⟨Lc, hQ, l1, y1, z1⟩, st⟩ := X.virtualBackUp hx (x := y) (y := z) hown (mvT hZ w1) (mvT hZ w7) (mvT hZ w2) hy (mvT hZ w5) (mvT hZ w6) (backOf (W := W) hM hZ w4 w3 h1 h2) qa qc (g := g) hg hsize (Steps.refl _) (argsL := argsL) (rest := rest) (lenOf hd hl) hstack (Nat.le_of_eq hW) hdg (fun _ _ => ⟨ha, eT, h3, h4⟩)
  dsimp only [Pt.U, Pt.locs, Pt.cells, Pt.slots] at X' l1 y1 z1 st hQ
  subst l1 y1 z1
  exact ⟨T', v, Lc, X', hQ, fun _ k => st.trans k⟩
theorem own_callI (X : Stand p l e R s m args below meth c T locs cells slots) (hx : p.tables.exec = Jvm.exec) (hZ : Z.Warmed39 s.vm) {own C : String} {index count : Nat} {y z : MethodName} {bytes : ByteArray} {maxL : Nat} {ret : Option FieldType} {rm : Room} {as' : Array Value} {Q : Option Value → Heap → List Loc → Prop}
    (hown : s.vm.findClass own = some m.cls) (w1 : (Cond.methodLink own index y).before a0 Z = true) (w2 : (Cond.declares y).before a0 Z = true) (w7 : (Cond.interfaceMethod y.cls y.cls y.name y.desc).before args s = true) (w5 : (Cond.selects C y z).before a0 Z = true) (w6 : (Cond.instanceMethod z).before a0 Z = true) (w8 : (Cond.publicMethod z).before a0 Z = true) (w9 : (Cond.unhidden C y.name y.desc).before a0 Z = true) (w10 : (Cond.castable C y.cls).before a0 Z = true) (w3 : (Cond.initialized z.cls).before a0 Z = true) (w4 : (Cond.code z bytes maxL ret).before a0 Z = true)
    (hy : y.cls ≠ "java/lang/invoke/MethodHandle" ∧ y.cls ≠ "java/lang/invoke/VarHandle") (hM : own_Met l z bytes maxL ret [] rm Z h as' Q) (eT : T.heap = h) {a : Addr} (E : Exa Z h a C) {ps : List FieldType} {r : Option FieldType} (hd : parseMethodDescriptor y.desc = some ⟨ps, r⟩) {argsL rest : List Value} (hl : argsL.length = ps.length) (ha : (.ref a :: argsL).toArray = as')
    {g : JFrame} (hg : g.method = m) (hsize : g.locals.size = c.maxLocals) (hstack : g.stack = argsL.reverse ++ .ref a :: rest) (hdg : decode c.code g.pc = .ok (.invokeinterface index count, 5)) {W : Nat} (hW : 2 * g.monitorRoom + (rest.map fun v => v.category).sum = W) (h1 : rm.frames + 1 ≤ R.frames) (h2 : W + (maxL + 11) + rm.locals ≤ R.locals) (h3 : cells + rm.cells ≤ R.cells) (h4 : slots + rm.slots ≤ R.slots) :
    own_Came p l e R s m args below meth c T locs (cells + rm.cells) (slots + rm.slots) g 5 rest Q := by
  obtain ⟨cq, kq, qa, qb, qc⟩ := isOf hZ eT E
  obtain ⟨v, _, ⟨T', L', k', n'⟩, -, X', ⟨Lc, hQ, l1, y1, z1⟩, st⟩ := X.interfaceBack hx (xi := y) (y := z) hown (mvT hZ w1) (mvT hZ w2) w7 (mvT hZ w5) (mvT hZ w6) (mvT hZ w8) (mvT hZ w9) (mvT hZ w10) hy (backOf (W := W) hM hZ w4 w3 h1 h2) qa qb qc (g := g) hg hsize (Steps.refl _) (argsL := argsL) (rest := rest) (lenOf hd hl) hstack (Nat.le_of_eq hW) hdg (fun _ _ => ⟨ha, eT, h3, h4⟩)
  dsimp only [Pt.U, Pt.locs, Pt.cells, Pt.slots] at X' l1 y1 z1 st hQ
  subst l1 y1 z1
  exact ⟨T', v, Lc, X', hQ, fun _ k => st.trans k⟩
theorem own_selP (hZ : Z.Warmed39 s.vm) {y : MethodName} {n : Nat} (w1 : (Cond.instantiable y.cls n).before a0 Z = true) (w2 : (Cond.privateMethod y).before a0 Z = true) (w3 : (Cond.instanceMethod y).before a0 Z = true) (hy : y.cls ≠ "java/lang/invoke/MethodHandle" ∧ y.cls ≠ "java/lang/invoke/VarHandle") : (Cond.selects y.cls y y).before args s = true := by
  obtain ⟨c, k, h1, h2, -, h3, -⟩ := Cond.instantiable_spec (mvT hZ w1 (args := args))
  exact Jvm.Stand.selects_self_of_private h1 h2 (by simp at h3; exact h3.1) (Cond.privateMethod_at (mvP hZ w2 (args := args))) (mvT hZ w3) hy
theorem own_callP (X : Stand p l e R s m args below meth c T locs cells slots) (hx : p.tables.exec = Jvm.exec) (hZ : Z.Warmed39 s.vm) {own : String} {index : Nat} {y : MethodName} {bytes : ByteArray} {maxL : Nat} {ret : Option FieldType} {rm : Room} {as' : Array Value} {Q : Option Value → Heap → List Loc → Prop}
    (hown : s.vm.findClass own = some m.cls) (w1 : (Cond.methodLink own index y).before a0 Z = true) (w6 : (Cond.instanceMethod y).before a0 Z = true) (w5 : (Cond.selects y.cls y y).before args s = true) (w7 : (Cond.privateMethod y).before a0 Z = true) (w3 : (Cond.initialized y.cls).before a0 Z = true) (w4 : (Cond.code y bytes maxL ret).before a0 Z = true)
    (hy : y.cls ≠ "java/lang/invoke/MethodHandle" ∧ y.cls ≠ "java/lang/invoke/VarHandle") (hM : own_Met l y bytes maxL ret [] rm Z h as' Q) (eT : T.heap = h) {a : Addr} {C : String} (E : Exa Z h a C) {ps : List FieldType} {r : Option FieldType} (hd : parseMethodDescriptor y.desc = some ⟨ps, r⟩) {argsL rest : List Value} (hl : argsL.length = ps.length) (ha : (.ref a :: argsL).toArray = as')
    {g : JFrame} (hg : g.method = m) (hsize : g.locals.size = c.maxLocals) (hstack : g.stack = argsL.reverse ++ .ref a :: rest) (hdg : decode c.code g.pc = .ok (.invokevirtual index, 3)) {W : Nat} (hW : 2 * g.monitorRoom + (rest.map fun v => v.category).sum = W) (h1 : rm.frames + 1 ≤ R.frames) (h2 : W + (maxL + 11) + rm.locals ≤ R.locals) (h3 : cells + rm.cells ≤ R.cells) (h4 : slots + rm.slots ≤ R.slots) :
    own_Came p l e R s m args below meth c T locs (cells + rm.cells) (slots + rm.slots) g 3 rest Q := by
  obtain ⟨cq, q, q'⟩ := E.cell
  obtain ⟨v, _, ⟨T', L', k', n'⟩, -, X', ⟨Lc, hQ, l1, y1, z1⟩, st⟩ := X.privateBack hx (y := y) hown (mvT hZ w1) (mvT hZ w6) w5 (Cond.privateMethod_at (mvP hZ w7 (args := #[]))) (mvT hZ w4) hy (backOf (W := W) hM hZ w4 w3 h1 h2) (g := g) hg hsize (Steps.refl _) (a := a) (by rw [eT]; exact q) q' (argsL := argsL) (rest := rest) (lenOf hd hl) hstack (Nat.le_of_eq hW) hdg (fun _ _ => ⟨ha, eT, h3, h4⟩)
  dsimp only [Pt.U, Pt.locs, Pt.cells, Pt.slots] at X' l1 y1 z1 st hQ
  subst l1 y1 z1
  exact ⟨T', v, Lc, X', hQ, fun _ k => st.trans k⟩
theorem own_nl {n0 : Nat} {Z : State} (O : Old Z n0 h) : n0 ≤ h.size := O.1 ▸ O.2.1
theorem own_tt {x : Bool} (h : x = true) : x = true := h
end Own
section Own2
variable {args : Array Value} {Z : State} {a : Addr} {O f d : String} {k : Int32} {t : Term} {v : Value} {ty : FieldType}
theorem own_fldI (ht : t.eval args Z none [] Z = some (.ref a)) (h : (Cond.eq (.field t O f d) (.int k)).value args Z none Z [] = some true) : Fld Z Z.heap a O f d (.int k) := by
  obtain ⟨x, y, ea, eb, -, k2⟩ := cmp_v (Or.inl h)
  obtain rfl : y = .int k := (Option.some.inj (eb.symm.trans (Term.int_eval k)))
  obtain ⟨z, rfl⟩ := k2
  obtain rfl : z = k := by simpa [Cond.value, ea, eb] using h
  rw [fld_at ht] at ea
  exact Fld.start ea
theorem own_len {c : Cell} (ht : t.eval args Z none [] Z = some (.ref a)) (A : Arr Z Z.heap a c ty) (h : (Cond.eq (.length t) (.int k)).value args Z none Z [] = some true) : c.slots.size < 2 ^ 31 ∧ c.slots.size.toInt32 = k := by
  obtain ⟨x, y, ea, eb, -, k2⟩ := cmp_v (Or.inl h)
  obtain rfl : y = .int k := (Option.some.inj (eb.symm.trans (Term.int_eval k)))
  obtain ⟨z, rfl⟩ := k2
  obtain rfl : z = k := by simpa [Cond.value, ea, eb] using h
  have hc := Arr.fin (State.Warmed39.refl Z).alike A
  simp only [Term.eval, ht, Option.bind_eq_bind, Option.bind_some, hc] at ea
  split at ea
  · rename_i hl
    exact ⟨by simpa using hl, by simpa using ea⟩
  · cases ea
theorem own_lenN {n : Nat} {k : Int32} (h : n < 2 ^ 31) (e : n.toInt32 = k) : n = k.toNatClampNeg := by
  subst e
  have := len_toInt h
  simp [Int32.toNatClampNeg, this]
theorem own_elem {c : Cell} {i : Int32} (ht : t.eval args Z none [] Z = some (.ref a)) (A : Arr Z Z.heap a c ty) (h : (Cond.eq (.elem t (.int i)) (.int k)).value args Z none Z [] = some true) : c.slots[i.toNatClampNeg]? = some (.int k) := by
  obtain ⟨x, y, ea, eb, -, k2⟩ := cmp_v (Or.inl h)
  obtain rfl : y = .int k := (Option.some.inj (eb.symm.trans (Term.int_eval k)))
  obtain ⟨z, rfl⟩ := k2
  obtain rfl : z = k := by simpa [Cond.value, ea, eb] using h
  exact (elem_in ea ht (Term.int_eval i) A.1).2
theorem own_bb (x : Int32) : nar .byte x.toInt8.toInt32 = x.toInt8.toInt32 := by simp [nar]
theorem own_narG (h : v.isRef = true) : narrow ty v = v := by cases v <;> first | rfl | (cases ty <;> rfl) | simp [Value.isRef] at h
theorem own_fitG (h : v.isRef = true) (ht : ty.isReference = true := by rfl) : fits ty v = true := by cases v <;> cases ty <;> simp_all [Value.isRef, fits, FieldType.isReference]
theorem own_narC (x : Int32) : narrow .char (.int x.toUInt32.toUInt16.toUInt32.toInt32) = .int x.toUInt32.toUInt16.toUInt32.toInt32 := by
  have : x.toUInt32.toUInt16.toUInt32.toInt32.toUInt32.toUInt16.toUInt32.toInt32 = x.toUInt32.toUInt16.toUInt32.toInt32 := by
    apply Int32.toBitVec_inj.1
    apply BitVec.eq_of_toNat_eq
    simp
  show Value.int _ = _
  exact congrArg Value.int this
theorem own_narB (x : Int32) : narrow .byte (.int x.toInt8.toInt32) = .int x.toInt8.toInt32 := by
  have : x.toInt8.toInt32.toInt8.toInt32 = x.toInt8.toInt32 := by simp
  show Value.int _ = _
  exact congrArg Value.int this
end Own2
section OwnM
variable {p : Program} {l : Launch} {e : Env} {R : Room} {s : State} {m : MethodId} {args : Array Value} {below : List Frame} {meth : Method} {c : Code} {T : State} {locs : List Loc} {cells slots : Nat} {Z : State} {a0 : Array Value} {h : Heap} {a : Addr}
theorem own_rne {a b : Addr} (h : a ≠ b) : ¬ (Value.ref a = Value.ref b) := fun q => h (by cases q; rfl)
theorem own_gcls (X : Stand p l e R s m args below meth c T locs cells slots) (hx : p.tables.exec = Jvm.exec) (hZ : Z.Warmed39 s.vm) {own C : String} {index : Nat} (hown : s.vm.findClass own = some m.cls)
    (w1 : (Cond.methodLink own index ⟨"java/lang/Object", "getClass", "()Ljava/lang/Class;"⟩).before a0 Z = true) (w2 : (Cond.declares ⟨"java/lang/Object", "getClass", "()Ljava/lang/Class;"⟩).before a0 Z = true) (w4 : (Cond.selects C ⟨"java/lang/Object", "getClass", "()Ljava/lang/Class;"⟩ ⟨"java/lang/Object", "getClass", "()Ljava/lang/Class;"⟩).before a0 Z = true)
    (w5 : (Cond.instanceMethod ⟨"java/lang/Object", "getClass", "()Ljava/lang/Class;"⟩).before a0 Z = true) (w6 : (Cond.native ⟨"java/lang/Object", "getClass", "()Ljava/lang/Class;"⟩).before a0 Z = true) (eT : T.heap = h) (E : Exa Z h a C) {mr : Addr} (M : Mir Z C mr)
    {g : JFrame} (hg : g.method = m) (hsize : g.locals.size = c.maxLocals) {rest : List Value} (hs : g.stack = .ref a :: rest) (hd : decode c.code g.pc = .ok (.invokevirtual index, 3)) (hf : 1 ≤ R.frames) {W : Nat} (hW : 2 * g.monitorRoom + (rest.map fun v => v.category).sum ≤ W) (hl : W + (nativeFrameWords "java/lang/Object" "getClass" 1 + 11) ≤ R.locals) :
    ∃ T', Stand p l e R s m args below meth c T' locs cells slots ∧ T'.heap = h ∧ ∀ target, Steps p.tables e below (T'.setTop { g with pc := g.pc + 3, stack := .ref mr :: rest }) target → Steps p.tables e below (T.setTop g) target := by
  obtain ⟨cB, kB, i1, i2, i3⟩ := isOf hZ eT E
  obtain ⟨cc, kc, m1, m2, m3, -⟩ := M
  rw [hZ.alike.findClass] at i1
  cases i1.symm.trans m1
  obtain ⟨k', q, ek⟩ := hZ.alike.2.2 _ _ m2
  obtain ⟨vm', X', st⟩ := X.getClassOf hx hown (mvT hZ w1) (mvT hZ w2) (notFace_of_selects (args := #[]) (mvT hZ w4)) (mvT hZ w4) (mvT hZ w5) (mvT hZ w6) (by rw [hZ.alike.findClass]; exact m1) i3 q (by rw [ek]; exact m3) hg hsize hs hd hf (by omega)
  exact ⟨_, X', eT, st⟩
theorem own_ifr {r o n d : String} (hZ : Z.Warmed39 s.vm) (w : (Cond.interfaceMethod r o n d).before a0 Z = true) : (Cond.interfaceMethod r o n d).before args s = true := Jvm.Free.ULB.iface_rides hZ.alike w
theorem own_gclsI (X : Stand p l e R s m args below meth c T locs cells slots) (hx : p.tables.exec = Jvm.exec) (hZ : Z.Warmed39 s.vm) {own C : String} {index count : Nat} {xi : MethodName} (hown : s.vm.findClass own = some m.cls)
    (w1 : (Cond.methodLink own index xi).before a0 Z = true) (w2 : (Cond.declares ⟨"java/lang/Object", "getClass", "()Ljava/lang/Class;"⟩).before a0 Z = true) (w3 : (Cond.interfaceMethod xi.cls "java/lang/Object" xi.name xi.desc).before args s = true) (w4 : (Cond.selects C xi ⟨"java/lang/Object", "getClass", "()Ljava/lang/Class;"⟩).before a0 Z = true)
    (w5 : (Cond.instanceMethod ⟨"java/lang/Object", "getClass", "()Ljava/lang/Class;"⟩).before a0 Z = true) (w7 : (Cond.publicMethod ⟨"java/lang/Object", "getClass", "()Ljava/lang/Class;"⟩).before a0 Z = true) (w8 : (Cond.unhidden C xi.name xi.desc).before a0 Z = true) (w9 : (Cond.castable C xi.cls).before a0 Z = true) (w6 : (Cond.native ⟨"java/lang/Object", "getClass", "()Ljava/lang/Class;"⟩).before a0 Z = true)
    (hy : xi.cls ≠ "java/lang/invoke/MethodHandle" ∧ xi.cls ≠ "java/lang/invoke/VarHandle") (hxo : xi.cls ≠ "java/lang/Object") (hname : xi.name = "getClass") (hdesc : xi.desc = "()Ljava/lang/Class;") (eT : T.heap = h) (E : Exa Z h a C) {mr : Addr} (M : Mir Z C mr)
    {g : JFrame} (hg : g.method = m) (hsize : g.locals.size = c.maxLocals) {rest : List Value} (hs : g.stack = .ref a :: rest) (hd : decode c.code g.pc = .ok (.invokeinterface index count, 5)) (hf : 1 ≤ R.frames) {W : Nat} (hW : 2 * g.monitorRoom + (rest.map fun v => v.category).sum ≤ W) (hl : W + (nativeFrameWords "java/lang/Object" "getClass" 1 + 11) ≤ R.locals) :
    ∃ T', Stand p l e R s m args below meth c T' locs cells slots ∧ T'.heap = h ∧ ∀ target, Steps p.tables e below (T'.setTop { g with pc := g.pc + 5, stack := .ref mr :: rest }) target → Steps p.tables e below (T.setTop g) target := by
  obtain ⟨cB, kB, i1, i2, i3⟩ := isOf hZ eT E
  obtain ⟨cc, kc, m1, m2, m3, -⟩ := M
  have i1' := i1
  rw [hZ.alike.findClass] at i1'
  cases i1'.symm.trans m1
  obtain ⟨k', q, ek⟩ := hZ.alike.2.2 _ _ m2
  cases i2.symm.trans q
  obtain ⟨vm', X', st⟩ := X.getClassOfI hx hown (mvT hZ w1) (mvT hZ w2) w3 (mvT hZ w4) (mvT hZ w5) (mvT hZ w7) (mvT hZ w8) (mvT hZ w9) (mvT hZ w6) hy hxo hname hdesc i1 i2 i3 (by rw [ek]; exact m3) hg hsize hs hd hf (by omega)
  exact ⟨_, X', eT, st⟩
theorem own_ldcM (X : Stand p l e R s m args below meth c T locs cells slots) (hx : p.tables.exec = Jvm.exec) (hZ : Z.Warmed39 s.vm) {own C : String} {index : Nat} (hown : s.vm.findClass own = some m.cls) (w : (Cond.classLink own index C).before a0 Z = true) (eT : T.heap = h) {mr : Addr} (M : Mir Z C mr)
    {g : JFrame} (hg : g.method = m) (hd : decode c.code g.pc = .ok (.ldc index, 2)) :
    ∃ T', Stand p l e R s m args below meth c T' locs cells slots ∧ T'.heap = h ∧ ∀ target, Steps p.tables e below (T'.setTop { g with pc := g.pc + 2, stack := .ref mr :: g.stack }) target → Steps p.tables e below (T.setTop g) target := by
  obtain ⟨cc, kc, m1, m2, m3, -⟩ := M
  obtain ⟨k', q, ek⟩ := hZ.alike.2.2 _ _ m2
  have m1' : s.vm.findClass C = some cc := by rw [hZ.alike.findClass]; exact m1
  have m3' : k'.mirror = some mr := by rw [ek]; exact m3
  obtain ⟨vm', X', st⟩ := X.ldcMirror hx hown (mvT hZ w) (a := mr) (by simp [Term.eval, m1', q, m3']) hg hd
  exact ⟨_, X', eT, st⟩
end OwnM
section OwnF
theorem own_norm {i : Int} {s : Bool} {c : Nat} {q : Int} (h : FP.Core.Whole i (.fin s c q)) (hi : i ≠ 0) (hc : c < 2 ^ 53) : -53 < q := by
  have h1 := FP.Core.whole_natAbs h
  refine Int.lt_of_not_ge fun hq => ?_
  have e1 : q.toNat = 0 := by omega
  have e2 : 53 ≤ (-q).toNat := by omega
  rw [e1, Nat.pow_zero, Nat.mul_one] at h1
  have h2 : 2 ^ 53 ≤ 2 ^ (-q).toNat := Nat.pow_le_pow_right (by decide) e2
  have h3 : 1 ≤ i.natAbs := by omega
  have h4 : 2 ^ (-q).toNat ≤ i.natAbs * 2 ^ (-q).toNat := Nat.le_mul_of_pos_left _ h3
  omega
theorem own_scale {S i A A' B B' M : Int} (hB : B ≠ 0) (hB' : B' ≠ 0) (hM : M ≠ 0) (h : A' * B = A * B' * M) : S * A = i * B ↔ S * A' = i * M * B' := by
  constructor
  · intro e
    refine Int.eq_of_mul_eq_mul_right hB ?_
    calc S * A' * B = S * (A' * B) := by rw [Int.mul_assoc]
      _ = (S * A) * (B' * M) := by rw [h]; simp only [Int.mul_assoc]
      _ = (i * B) * (B' * M) := by rw [e]
      _ = i * M * B' * B := by simp only [Int.mul_assoc, Int.mul_comm, Int.mul_left_comm]
  · intro e
    refine Int.eq_of_mul_eq_mul_right (Int.mul_ne_zero hB' hM) ?_
    calc S * A * (B' * M) = S * (A * B' * M) := by simp only [Int.mul_assoc]
      _ = (S * A') * B := by rw [← h, Int.mul_assoc]
      _ = i * M * B' * B := by rw [e]
      _ = i * B * (B' * M) := by simp only [Int.mul_assoc, Int.mul_comm, Int.mul_left_comm]
theorem own_two (k : Nat) : ((2 ^ k : Nat) : Int) ≠ 0 := by
  have := Nat.two_pow_pos k
  omega
theorem own_shift {i : Int} {s : Bool} {c : Nat} {q : Int} (m : Nat) : FP.Core.Whole i (.fin s c q) ↔ FP.Core.Whole (i * ((2 ^ m : Nat) : Int)) (.fin s c (q + (m : Int))) := by
  show FP.Core.signed s (c * 2 ^ q.toNat) = i * ((2 ^ (-q).toNat : Nat) : Int) ↔ FP.Core.signed s (c * 2 ^ (q + (m : Int)).toNat) = i * ((2 ^ m : Nat) : Int) * ((2 ^ (-(q + (m : Int))).toNat : Nat) : Int)
  rw [FP.Core.signed_mul, FP.Core.signed_mul]
  refine own_scale (own_two _) (own_two _) (own_two _) ?_
  rw [← Int.natCast_mul, ← Int.natCast_mul, ← Int.natCast_mul, ← Nat.pow_add, ← Nat.pow_add, ← Nat.pow_add]
  congr 2
  omega
theorem own_wone {i j : Int} {s : Bool} {c : Nat} {q : Int} (h : FP.Core.Whole i (.fin s c q)) (k : FP.Core.Whole j (.fin s c q)) : i = j :=
  Int.eq_of_mul_eq_mul_right (own_two (-q).toNat) ((show _ = _ from h).symm.trans k)
theorem own_dint {i : Int} {a : UInt64} (h : FP.Core.DInt i a) : ∃ s c q, FP.Core.val64 a = .fin s c q ∧ FP.Core.Whole i (.fin s c q) := by
  unfold FP.Core.DInt at h
  cases e : FP.Core.val64 a with
  | nan => rw [e] at h; exact h.elim
  | inf => rw [e] at h; exact h.elim
  | fin s c q => rw [e] at h; exact ⟨s, c, q, rfl, h⟩
theorem own_norm64 {a : UInt64} {i : Int} {s : Bool} {c : Nat} {q : Int} (hX : FP.Core.val64 a = .fin s c q) (h : FP.Core.Whole i (.fin s c (q + 10)) ∨ FP.Core.Whole i (.fin s c (q + 2)) ∨ FP.Core.Whole i (.fin s c q)) (hi : i ≠ 0) : c < 2 ^ 53 ∧ -63 < q ∧ q ≤ 971 ∧ 2 ^ 52 ≤ c := by
  have hf := FP.Core.val64_fits a
  rw [hX] at hf
  obtain ⟨hc, h1, h2, h3⟩ := hf
  have a1 : FP.Core.b64.p = 53 := rfl
  have a2 : FP.Core.b64.qmin = -1074 := by decide
  have a3 : FP.Core.b64.qmax = 971 := by decide
  have a4 : FP.Core.b64.tails = 2 ^ 52 := by decide
  rw [a1] at hc
  have b : -63 < q := by
    rcases h with h | h | h
    · have := own_norm h hi hc; omega
    · have := own_norm h hi hc; omega
    · have := own_norm h hi hc; omega
  refine ⟨hc, b, by omega, ?_⟩
  rcases h3 with h3 | h3
  · omega
  · rw [a4] at h3; exact h3
theorem own_fin64 {s : Bool} {c : Nat} {q : Int} (hc : c < 2 ^ 53) (h1 : -1000 < q) (h2 : q ≤ 971) (h3 : 2 ^ 52 ≤ c) : FP.Core.fits FP.Core.b64 (.fin s c q) := by
  have a1 : FP.Core.b64.p = 53 := rfl
  have a2 : FP.Core.b64.qmin = -1074 := by decide
  have a3 : FP.Core.b64.qmax = 971 := by decide
  have a4 : FP.Core.b64.tails = 2 ^ 52 := by decide
  refine ⟨by rw [a1]; exact hc, by omega, by omega, Or.inr ?_⟩
  rw [a4]; exact h3
end OwnF
section OwnG
theorem own_val4 : FP.Core.val64 4616189618054758400 = .fin false (2 ^ 52) (-50) := by decide +kernel
theorem own_nn_of {a : UInt64} {s : Bool} {c : Nat} {q : Int} (h : FP.Core.val64 a = .fin s c q) : FP.Core.val64 a ≠ .nan := by rw [h]; intro x; cases x
theorem own_isn {a : UInt64} (h : FP.Core.val64 a ≠ .nan) : FP.dIsNaN a = false := by
  cases e : FP.dIsNaN a with
  | false => rfl
  | true =>
    exfalso
    have e1 := (FP.Core.isNaN_bits a).mp e
    have e2 := (FP.Core.ne_nan a).mp h
    omega
theorem own_vneg {a : UInt64} (h : FP.Core.val64 a ≠ .nan) : FP.Core.val64 (FP.dneg a) = FP.Core.negate (FP.Core.val64 a) := by
  rw [FP.dneg_core (own_isn h), FP.Core.val64_dneg]
theorem own_div4 {i : Int} {X : UInt64} {s : Bool} {c : Nat} {q : Int} (hX : FP.Core.val64 X = .fin s c q) (h : FP.Core.Whole i (.fin s c q)) (hi : i ≠ 0) : FP.Core.val64 (FP.ddiv X 4616189618054758400) = .fin s c (q - 2) := by
  obtain ⟨hc, h1, h2, h3⟩ := own_norm64 hX (Or.inr (Or.inr h)) hi
  show FP.Core.val64 (FP.Core.ddiv X 4616189618054758400) = _
  rw [FP.Core.val64_ddiv, hX, own_val4]
  have e : (s != false) = s := by cases s <;> rfl
  show (if (2 ^ 52 : Nat) = 0 then (if c = 0 then FP.Core.Datum.nan else .inf (s != false)) else FP.Core.roundRatio FP.Core.b64 (s != false) c (2 ^ 52) (q - (-50))) = _
  rw [if_neg (by decide), e]
  refine FP.Core.roundRatio_exact FP.Core.good_b64 (by decide) (own_fin64 hc (by omega) (by omega) h3) ?_
  rw [show (q - (-50) - (q - 2)).toNat = 52 by omega, show (q - 2 - (q - (-50))).toNat = 0 by omega, Nat.pow_zero, Nat.mul_one]
def own_mk (v n q : Int32) : UInt64 := if q = (0 : Int32) then (if n = (0 : Int32) then FP.i2d v else FP.dneg (FP.i2d v)) else FP.ddiv (if n = (0 : Int32) then FP.i2d v else FP.dneg (FP.i2d v)) 4616189618054758400
def own_sv (v n q : Int32) : Int := (if n = (0 : Int32) then v.toInt else -v.toInt) * (if q = (0 : Int32) then 4 else 1)
theorem own_mkX (v n : Int32) : FP.Core.DInt (if n = (0 : Int32) then v.toInt else -v.toInt) (if n = (0 : Int32) then FP.i2d v else FP.dneg (FP.i2d v)) := by
  have h := FP.Core.i2d_int v
  by_cases e : n = 0
  · rw [if_pos e, if_pos e]; exact h
  · rw [if_neg e, if_neg e]
    obtain ⟨s, c, q, hX, -⟩ := own_dint h
    have := FP.Core.dneg_int h
    rw [FP.dneg_core (own_isn (own_nn_of hX))]; exact this
theorem own_mk_nz (v n q : Int32) (hv : v ≠ 0) : own_sv v n q ≠ 0 ∧ ∃ s c e, FP.Core.val64 (own_mk v n q) = .fin s c e ∧ FP.Core.Whole (own_sv v n q) (.fin s c (e + 2)) := by
  have hz : v.toInt ≠ 0 := fun h => hv (Int32.toInt_inj.mp h)
  have hi : (if n = (0 : Int32) then v.toInt else -v.toInt) ≠ 0 := by split <;> omega
  obtain ⟨s, c, e, hX, hW⟩ := own_dint (own_mkX v n)
  unfold own_mk own_sv
  by_cases h : q = 0
  · simp only [if_pos h]
    refine ⟨by omega, s, c, e, hX, ?_⟩
    have := (own_shift 2).mp hW
    exact this
  · simp only [if_neg h]
    refine ⟨by omega, s, c, e - 2, own_div4 hX hW hi, ?_⟩
    rw [show e - 2 + 2 = e by omega, Int.mul_one]; exact hW
theorem own_mk_z (n q : Int32) : FP.Core.val64 (own_mk 0 n q) = .fin (decide (¬ n = 0)) 0 FP.Core.b64.qmin := by
  have h0 : FP.Core.val64 (FP.i2d 0) = .fin false 0 FP.Core.b64.qmin := by decide +kernel
  have h1 : FP.Core.val64 (FP.dneg (FP.i2d 0)) = .fin true 0 FP.Core.b64.qmin := by decide +kernel
  have h2 : FP.Core.val64 (FP.ddiv (FP.i2d 0) 4616189618054758400) = .fin false 0 FP.Core.b64.qmin := by decide +kernel
  have h3 : FP.Core.val64 (FP.ddiv (FP.dneg (FP.i2d 0)) 4616189618054758400) = .fin true 0 FP.Core.b64.qmin := by decide +kernel
  unfold own_mk
  by_cases hn : n = 0 <;> by_cases hq : q = 0 <;> simp only [if_pos, if_neg, hn, hq] <;> first | exact h0 | exact h1 | exact h2 | exact h3
theorem own_mk_nn (v n q : Int32) : FP.Core.val64 (own_mk v n q) ≠ .nan := by
  by_cases h : v = 0
  · subst h; rw [own_mk_z]; intro x; cases x
  · obtain ⟨-, s, c, e, hX, -⟩ := own_mk_nz v n q h; exact own_nn_of hX
theorem own_sv_z (n q : Int32) : own_sv 0 n q = 0 := by unfold own_sv; by_cases h : n = 0 <;> simp [h]
theorem own_mk_eq (a n q b n' q' : Int32) : own_mk a n q = own_mk b n' q' ↔ own_sv a n q = own_sv b n' q' ∧ (own_sv a n q ≠ 0 ∨ (n = 0 ↔ n' = 0)) := by
  by_cases ha : a = 0
  · subst ha
    have za := own_mk_z n q
    rw [own_sv_z]
    by_cases hb : b = 0
    · subst hb
      have zb := own_mk_z n' q'
      rw [own_sv_z]
      constructor
      · intro h; rw [h] at za
        have := za.symm.trans zb
        simp only [FP.Core.Datum.fin.injEq, decide_eq_decide] at this
        exact ⟨rfl, Or.inr (by have := this.1; by_cases x : n = 0 <;> by_cases y : n' = 0 <;> simp_all)⟩
      · rintro ⟨-, h⟩
        have h' : (n = 0 ↔ n' = 0) := by rcases h with h | h; exact absurd rfl h; exact h
        refine FP.Core.val64_inj (own_mk_nn _ _ _) ?_
        rw [za, zb]
        have : decide (¬ n = 0) = decide (¬ n' = 0) := by rw [decide_eq_decide, h']
        rw [this]
    · obtain ⟨hz, s, c, e, hX, hW⟩ := own_mk_nz b n' q' hb
      constructor
      · intro h; rw [h, hX] at za
        injection za with _ hc _
        subst hc
        exact absurd ((FP.Core.whole_zero hW).mp rfl) hz
      · rintro ⟨h, -⟩; exact absurd h.symm hz
  · obtain ⟨hz, s, c, e, hX, hW⟩ := own_mk_nz a n q ha
    by_cases hb : b = 0
    · subst hb
      have zb := own_mk_z n' q'
      rw [own_sv_z]
      constructor
      · intro h; rw [← h, hX] at zb
        injection zb with _ hc _
        subst hc
        exact absurd ((FP.Core.whole_zero hW).mp rfl) hz
      · rintro ⟨h, -⟩; exact absurd h hz
    · obtain ⟨hz', s', c', e', hX', hW'⟩ := own_mk_nz b n' q' hb
      constructor
      · intro h
        rw [h, hX'] at hX
        injection hX with h1 h2 h3
        subst h1 h2 h3
        exact ⟨own_wone hW hW', Or.inl hz⟩
      · rintro ⟨h, -⟩
        obtain ⟨a1, a2, a3, a4⟩ := own_norm64 hX (Or.inr (Or.inl hW)) hz
        obtain ⟨b1, b2, b3, b4⟩ := own_norm64 hX' (Or.inr (Or.inl hW')) hz'
        rw [← h] at hW'
        have q1 := own_norm hW hz a1
        have n1 := FP.Core.whole_natAbs hW
        have n2 := FP.Core.whole_natAbs hW'
        have lim : (own_sv a n q).natAbs ≤ 2 ^ 34 := by
          unfold own_sv
          have l1 := Int32.toInt_lt a
          have l2 := Int32.le_toInt a
          split <;> split <;> omega
        have up : ∀ {s : Bool} {c : Nat} {e : Int}, FP.Core.Whole (own_sv a n q) (.fin s c (e + 2)) → 2 ^ 52 ≤ c → e + 2 ≤ 900 := by
          intro s c e w hc
          refine Int.le_of_not_gt fun hgt => ?_
          have m := FP.Core.whole_natAbs w
          rw [show (-(e + 2)).toNat = 0 by omega, Nat.pow_zero, Nat.mul_one] at m
          have : 1 ≤ 2 ^ (e + 2).toNat := Nat.two_pow_pos _
          have : c * 1 ≤ c * 2 ^ (e + 2).toNat := Nat.mul_le_mul_left _ this
          omega
        have u1 := up hW a4
        have u2 := up hW' b4
        have := FP.Core.whole_unique FP.Core.good_b64 hz hW hW' (own_fin64 a1 (by omega) (by omega) a4) (own_fin64 b1 (by omega) (by omega) b4)
        injection this with h1 h2 h3
        refine FP.Core.val64_inj (own_mk_nn _ _ _) ?_
        rw [hX, hX', h1, h2, show e = e' by omega]
end OwnG
section OwnRaw
variable {p : Program} {l : Launch} {e : Env} {R : Room} {s : State} {m : MethodId} {args : Array Value} {below : List Frame} {meth : Method} {c : Code} {T : State} {locs : List Loc} {cells slots : Nat} {Z : State} {a0 : Array Value} {h : Heap}
theorem own_raw (X : Stand p l e R s m args below meth c T locs cells slots) (hx : p.tables.exec = Jvm.exec) (hZ : Z.Warmed39 s.vm) {own : String} {index : Nat} (hown : s.vm.findClass own = some m.cls)
    (w1 : (Cond.methodLink own index ⟨"java/lang/Double", "doubleToRawLongBits", "(D)J"⟩).before a0 Z = true) (w2 : (Cond.native ⟨"java/lang/Double", "doubleToRawLongBits", "(D)J"⟩).before a0 Z = true) (w3 : (Cond.static ⟨"java/lang/Double", "doubleToRawLongBits", "(D)J"⟩).before a0 Z = true) (w4 : (Cond.initialized "java/lang/Double").before a0 Z = true) (eT : T.heap = h)
    {g : JFrame} (hg : g.method = m) (hsize : g.locals.size = c.maxLocals) {rest : List Value} {b : UInt64} (hstack : g.stack = .double b :: rest) (hdg : decode c.code g.pc = .ok (.invokestatic index, 3))
    (hf : 1 ≤ R.frames) (hl : 2 * g.monitorRoom + (rest.map fun v => v.category).sum + (nativeFrameWords "java/lang/Double" "doubleToRawLongBits" 2 + 11) ≤ R.locals) :
    ∃ T', Stand p l e R s m args below meth c T' locs cells slots ∧ T'.heap = h ∧ ∀ t, Steps p.tables e below (T'.setTop { g with pc := g.pc + 3, stack := .long b.toInt64 :: rest }) t → Steps p.tables e below (T.setTop g) t := by
  obtain ⟨vm, X', st⟩ := X.doubleToRawLongBits hx hown (mvT hZ w1) (mvT hZ w2) (mvT hZ w3) (mvT hZ w4) hg hsize hstack hdg hf hl
  exact ⟨_, X', eT, st⟩
end OwnRaw
theorem own_join {p : Program} {e : Env} {below : List Frame} {P : Outcome → State → Prop} {V : State} {A : Int32 → Prop} {U : Int32 → State} (j : ∀ z, A z → own_Go p e below P (U z)) (k : (∀ z, A z → own_Go p e below P (U z)) → own_Go p e below P V) : own_Go p e below P V := k j
theorem own_dself {a : UInt64} (h : FP.Core.val64 a ≠ .nan) (op : CmpOp) : cmpValue (FP.dcmp a a) op = (0 : Int32) := by
  rw [show FP.dcmp a a = some .eq from FP.Core.dcmp_self h]; rfl
theorem own_dq1 {a b : UInt64} (h : FP.Core.val64 a ≠ .nan) (c : cmpValue (FP.dcmp a b) .g < (0 : Int32)) : ((-1 : Int32) = (0 : Int32) ↔ a = b) := by
  refine ⟨fun q => absurd q (by decide), fun q => ?_⟩
  subst q; rw [own_dself h] at c; exact absurd c (by decide)
theorem own_dq2 {a b : UInt64} (h : FP.Core.val64 a ≠ .nan) (c : (0 : Int32) < cmpValue (FP.dcmp a b) .l) : ((1 : Int32) = (0 : Int32) ↔ a = b) := by
  refine ⟨fun q => absurd q (by decide), fun q => ?_⟩
  subst q; rw [own_dself h] at c; exact absurd c (by decide)
theorem own_lz {x y : Int64} : lcmpW x y = (0 : Int32) ↔ x = y := by
  unfold lcmpW
  constructor
  · intro h
    by_cases h2 : x = y
    · exact h2
    · by_cases h1 : y < x
      · simp [h1] at h
      · simp [h1, h2] at h
  · intro h; subst h; simp
theorem own_t64 {a b : UInt64} : a.toInt64 = b.toInt64 ↔ a = b := by
  constructor
  · intro h
    have := congrArg Int64.toUInt64 h
    simpa using this
  · intro h; rw [h]
theorem own_dq3 {a b : UInt64} (c : lcmpW a.toInt64 b.toInt64 = (0 : Int32)) : ((0 : Int32) = (0 : Int32) ↔ a = b) := ⟨fun _ => own_t64.mp (own_lz.mp c), fun _ => rfl⟩
theorem own_dq4 {a b : UInt64} {r : Int32} (hr : r ≠ 0) (c : ¬ lcmpW a.toInt64 b.toInt64 = (0 : Int32)) : (r = (0 : Int32) ↔ a = b) := ⟨fun q => absurd q hr, fun q => absurd (own_lz.mpr (own_t64.mpr q)) c⟩
def own_eq (a b : UInt64) : Int32 := if a = b then 1 else 0
theorem own_e1 {a b : UInt64} (h : a = b) : some (Value.int 1) = some (Value.int (own_eq a b)) := by rw [own_eq, if_pos h]
theorem own_e0 {a b : UInt64} (h : ¬ a = b) : some (Value.int 0) = some (Value.int (own_eq a b)) := by rw [own_eq, if_neg h]
theorem own_eqs (a : UInt64) : ¬ own_eq a a = (0 : Int32) := by rw [own_eq, if_pos rfl]; decide
theorem own_eqc (a b : UInt64) : own_eq a b = own_eq b a := by
  unfold own_eq
  by_cases h : a = b
  · rw [if_pos h, if_pos h.symm]
  · rw [if_neg h, if_neg (fun q => h q.symm)]
def own_sc (v n q : Int32) : Int64 := if q = (0 : Int32) then (if n = (0 : Int32) then v.toInt64 else -v.toInt64) * (4 : Int64) else (if n = (0 : Int32) then v.toInt64 else -v.toInt64)
def own_nz (a n : Int32) : Int32 := if a = (0 : Int32) then (if n = (0 : Int32) then 0 else 1) else 0
def own_ex (la lb : Int64) (za zb : Int32) : Int32 := if lcmpW la lb = (0 : Int32) then (if lcmpW la (0 : Int64) = (0 : Int32) then (if za = zb then 1 else 0) else 1) else 0
theorem own_nn4 (v : Int32) {x : UInt64} (h : x = FP.i2d v ∨ x = FP.dneg (FP.i2d v)) : Jvm.Free.Fl.NoNaN64 (FP.ddiv x 4616189618054758400) := by
  have k : FP.Core.val64 (FP.ddiv x 4616189618054758400) ≠ .nan := by
    rcases h with rfl | rfl
    · exact own_mk_nn v 0 1
    · exact own_mk_nn v 1 1
  exact Jvm.Free.Fl.val64_no.mpr k
theorem own_scI (v n q : Int32) : (own_sc v n q).toInt = own_sv v n q := by
  have l1 := Int32.toInt_lt v
  have l2 := Int32.le_toInt v
  have e : (v.toInt64).toInt = v.toInt := by simp
  have en : (-v.toInt64).toInt = -v.toInt := by
    rw [Int64.toInt_neg, e]
    exact Int.bmod_eq_of_le (by omega) (by omega)
  unfold own_sc own_sv
  by_cases hn : n = 0 <;> by_cases hq : q = 0 <;> simp only [hn, hq, if_true, if_false]
  · rw [Int64.toInt_mul, e]; exact Int.bmod_eq_of_le (by simp; omega) (by simp; omega)
  · rw [e]; omega
  · rw [Int64.toInt_mul, en]; exact Int.bmod_eq_of_le (by simp; omega) (by simp; omega)
  · rw [en]; omega
theorem own_main {a n q b n' q' za zb : Int32} (ha : za = own_nz a n) (hb : zb = own_nz b n') : own_eq (own_mk a n q) (own_mk b n' q') = own_ex (own_sc a n q) (own_sc b n' q') za zb := by
  have k := own_mk_eq a n q b n' q'
  have e1 : own_sv a n q = own_sv b n' q' ↔ lcmpW (own_sc a n q) (own_sc b n' q') = (0 : Int32) := by
    rw [own_lz, ← own_scI, ← own_scI]; exact Int64.toInt_inj
  have e2 : own_sv a n q = 0 ↔ lcmpW (own_sc a n q) (0 : Int64) = (0 : Int32) := by
    rw [own_lz, ← own_scI]; exact Int64.toInt_inj (y := 0)
  unfold own_eq own_ex
  by_cases h1 : lcmpW (own_sc a n q) (own_sc b n' q') = (0 : Int32)
  · rw [if_pos h1]
    by_cases h2 : lcmpW (own_sc a n q) (0 : Int64) = (0 : Int32)
    · rw [if_pos h2]
      have z1 := e2.mpr h2
      have z2 : own_sv b n' q' = 0 := (e1.mpr h1) ▸ z1
      have a0 : a = 0 := by
        refine Decidable.byContradiction fun h => ?_
        exact (own_mk_nz a n q h).1 z1
      have b0 : b = 0 := by
        refine Decidable.byContradiction fun h => ?_
        exact (own_mk_nz b n' q' h).1 z2
      have e3 : (za = zb) ↔ (n = 0 ↔ n' = 0) := by
        rw [ha, hb, a0, b0]; unfold own_nz
        by_cases x : n = 0 <;> by_cases y : n' = 0 <;> simp [x, y]
      have e4 : own_mk a n q = own_mk b n' q' ↔ za = zb := by
        rw [k, e3]; exact ⟨fun h => h.2.resolve_left (fun q => q z1), fun h => ⟨e1.mpr h1, Or.inr h⟩⟩
      by_cases h3 : za = zb
      · rw [if_pos h3, if_pos (e4.mpr h3)]
      · rw [if_neg h3, if_neg (fun q => h3 (e4.mp q))]
    · rw [if_neg h2, if_pos (k.mpr ⟨e1.mpr h1, Or.inl (fun q => h2 (e2.mp q))⟩)]
  · rw [if_neg h1, if_neg (fun q => h1 (e1.mp (k.mp q).1))]
abbrev own_c_0 : String := "com/example/tasdik/tasdik/core/cbor/CborValue$Type"
def own_S (Z : State) (w0 wl wp mr : Addr) : Prop := Sta Z Z.heap "com/example/tasdik/tasdik/core/cbor/CborValue$Type" "FLOAT" "Lcom/example/tasdik/tasdik/core/cbor/CborValue$Type;" (.ref w0) ∧ Exa Z Z.heap w0 own_c_0 ∧ Fld Z Z.heap w0 "java/lang/Enum" "ordinal" "I" (.int (7 : Int32)) ∧ Sta Z Z.heap "java/util/ImmutableCollections" "EMPTY_LIST" "Ljava/util/ImmutableCollections$ListN;" (.ref wl) ∧ Sta Z Z.heap "java/util/ImmutableCollections" "EMPTY_MAP" "Ljava/util/ImmutableCollections$MapN;" (.ref wp) ∧ Mir Z "com/example/tasdik/tasdik/core/cbor/CborValue$Type" mr
theorem own_d_jdk_117_6_0 : decode jdk_117_method_6_code 0 = .ok (.dload_n 0, 1) := by decide +kernel
theorem own_d_jdk_117_6_1 : decode jdk_117_method_6_code 1 = .ok (.dload_n 0, 1) := by decide +kernel
theorem own_d_jdk_117_6_2 : decode jdk_117_method_6_code 2 = .ok (.dcmp .l, 1) := by decide +kernel
theorem own_d_jdk_117_6_3 : decode jdk_117_method_6_code 3 = .ok (.ifCond .eq 7, 3) := by decide +kernel
theorem own_d_jdk_117_6_10 : decode jdk_117_method_6_code 10 = .ok (.iconst 0, 1) := by decide +kernel
theorem own_d_jdk_117_6_11 : decode jdk_117_method_6_code 11 = .ok (.ireturn, 1) := by decide +kernel
abbrev own_y_7 : MethodName := ⟨"java/lang/Double", "isNaN", "(D)Z"⟩
theorem own_pn_8 : plainName "java/lang/Double" = true := by first | (simp [plainName, overriddenIn]; done) | decide +kernel
theorem own_ef_rmNan (m : MethodId) (a : UInt64)  : entryFrame m #[(.double a)] 2 = mkF m 0 #[.val (.double a), .second] [] := by first | (simp [entryFrame, mkF, argsToLocals, Value.category, maxLocals]; done) | rfl
def QrmNan (Z : State) (w0 wl wp mr : Addr) (a : UInt64) (h0 : Heap) (n0 : Nat) (v : Option Value) (h : Heap) (L : List Loc) : Prop := v = some (.int (0 : Int32)) ∧ Fr n0 L ∧ h = h0
set_option maxRecDepth 65536 in
set_option maxHeartbeats 40000000 in
theorem rmNan (l : Launch) (Z : State) (a0 : Array Value) (hw : own_H a0 Z) (ws : List Jvm.Cond) (w0 wl wp mr : Addr) (hS : own_S Z w0 wl wp mr) (a : UInt64) (h0 : Heap) (n0 : Nat) (O0 : Old Z n0 h0) (na : FP.Core.val64 a ≠ .nan) :
    own_Met l own_y_7 jdk_117_method_6_code 2 (some .boolean) ws ({ frames := 0, cells := 0, slots := 0, locals := 0 } : Room) Z h0 #[(.double a)] (QrmNan Z w0 wl wp mr a h0 n0) := by
  refine own_body (plainFor_of_name own_pn_8) ?_
  intro p e s m below meth c s₁ hx hby hml hown hnm hret hlk hZ e0 X0
  have N0 := Fr.nil n0
  refine own_st (fun u_ k_ => castTop (own_ef_rmNan m a) k_) ?_
  show own_Go p e below _ (s₁.setTop (mkF m 0 #[.val (.double a), .second] []))
  refine own_st (fun u_ k_ => XS.dloadN X0.here hx rfl (hb hby own_d_jdk_117_6_0) rfl k_) ?_
  refine own_st (fun u_ k_ => XS.dloadN X0.here hx rfl (hb hby own_d_jdk_117_6_1) rfl k_) ?_
  show own_Go p e below _ (s₁.setTop (mkF m 2 #[.val (.double a), .second] [(.double a), (.double a)]))
  refine own_st (fun u_ k_ => XS.dcmpS X0.here hx rfl (hb hby own_d_jdk_117_6_2) rfl rfl k_) ?_
  refine own_st (fun u_ k_ => XS.ifYes X0.here hx rfl (pc0 := 3) (pc' := 10) rfl (hb hby own_d_jdk_117_6_3) rfl (XT.i0_eq_t (own_dself na _)) (by decide) (by decide) k_) ?_
  show own_Go p e below _ (s₁.setTop (mkF m 10 #[.val (.double a), .second] []))
  refine own_st (fun u_ k_ => XS.iconst X0.here hx rfl (hb hby own_d_jdk_117_6_10) k_) ?_
  exact own_retX X0 hx hlk hret rfl (Or.inl ⟨rfl, by simp, _, rfl⟩) (hb hby own_d_jdk_117_6_11) (by decide) (by decide) (show QrmNan Z w0 wl wp mr a h0 n0 (some (.int (0 : Int32))) s₁.heap _ from (by rw [e0]; exact ⟨rfl, N0, rfl⟩))
theorem own_d_jdk_117_23_0 : decode jdk_117_method_23_code 0 = .ok (.dload_n 0, 1) := by decide +kernel
theorem own_d_jdk_117_23_1 : decode jdk_117_method_23_code 1 = .ok (.invokestatic 122, 3) := by decide +kernel
theorem own_lm_11 : ("java/lang/Double" : String) ≠ "java/lang/invoke/MethodHandle" ∧ ("java/lang/Double" : String) ≠ "java/lang/invoke/VarHandle" := by decide +kernel
theorem own_pd_12 : parseMethodDescriptor "(D)Z" = some ⟨[.double], some .boolean⟩ := by decide +kernel
theorem own_d_jdk_117_23_4 : decode jdk_117_method_23_code 4 = .ok (.ifCond .ne 8, 3) := by decide +kernel
theorem own_d_jdk_117_23_7 : decode jdk_117_method_23_code 7 = .ok (.dload_n 0, 1) := by decide +kernel
theorem own_d_jdk_117_23_8 : decode jdk_117_method_23_code 8 = .ok (.invokestatic 134, 3) := by decide +kernel
theorem own_d_jdk_117_23_11 : decode jdk_117_method_23_code 11 = .ok (.lreturn, 1) := by decide +kernel
abbrev own_y_17 : MethodName := ⟨"java/lang/Double", "doubleToLongBits", "(D)J"⟩
theorem own_ef_rmBits (m : MethodId) (a : UInt64)  : entryFrame m #[(.double a)] 2 = mkF m 0 #[.val (.double a), .second] [] := by first | (simp [entryFrame, mkF, argsToLocals, Value.category, maxLocals]; done) | rfl
def QrmBits (Z : State) (w0 wl wp mr : Addr) (a : UInt64) (h0 : Heap) (n0 : Nat) (v : Option Value) (h : Heap) (L : List Loc) : Prop := v = some (.long (a.toInt64)) ∧ Fr n0 L ∧ h = h0
set_option maxRecDepth 65536 in
set_option maxHeartbeats 40000000 in
theorem rmBits (l : Launch) (Z : State) (a0 : Array Value) (hw : own_H a0 Z) (ws : List Jvm.Cond) (w0 wl wp mr : Addr) (hS : own_S Z w0 wl wp mr) (a : UInt64) (h0 : Heap) (n0 : Nat) (O0 : Old Z n0 h0) (na : FP.Core.val64 a ≠ .nan) :
    own_Met l own_y_17 jdk_117_method_23_code 2 (some .long) ws ({ frames := 1, cells := 0, slots := 0, locals := 31 } : Room) Z h0 #[(.double a)] (QrmBits Z w0 wl wp mr a h0 n0) := by
  refine own_body (plainFor_of_name own_pn_8) ?_
  intro p e s m below meth c s₁ hx hby hml hown hnm hret hlk hZ e0 X0
  have N0 := Fr.nil n0
  refine own_st (fun u_ k_ => castTop (own_ef_rmBits m a) k_) ?_
  show own_Go p e below _ (s₁.setTop (mkF m 0 #[.val (.double a), .second] []))
  refine own_st (fun u_ k_ => XS.dloadN X0.here hx rfl (hb hby own_d_jdk_117_23_0) rfl k_) ?_
  obtain ⟨T1, v1, L1, X1, hQ1, st1⟩ := own_callS X0 hx hZ (y := own_y_7) hown (own_w hw 92 rfl) (own_w hw 93 rfl) (own_w hw 87 rfl) (own_w hw 94 rfl) own_lm_11 (rmNan l Z a0 hw [] w0 wl wp mr hS a h0 n0 O0 na) e0 own_pd_12 (argsL := [(.double a)]) (rest := []) rfl rfl (g := (mkF m 1 #[.val (.double a), .second] [(.double a)])) rfl (by rw [hml]; rfl) rfl (hb hby own_d_jdk_117_23_1) (W := 0) rfl (by decide) (by decide) (by decide) (by decide)
  obtain ⟨rfl, M1, e1⟩ := hQ1
  have N1 := Fr.app N0 M1
  refine own_st (fun u_ k_ => st1 u_ k_) ?_
  show own_Go p e below _ (T1.setTop (mkF m 4 #[.val (.double a), .second] [(.int (0 : Int32))]))
  refine own_st (fun u_ k_ => XS.ifNo X1.here hx rfl (hb hby own_d_jdk_117_23_4) rfl (XT.i0_ne_f (by decide)) k_) ?_
  refine own_st (fun u_ k_ => XS.dloadN X1.here hx rfl (hb hby own_d_jdk_117_23_7) rfl k_) ?_
  show own_Go p e below _ (T1.setTop (mkF m 8 #[.val (.double a), .second] [(.double a)]))
  obtain ⟨T2, X2, e2, st2⟩ := own_raw X1 hx hZ hown (own_w hw 95 rfl) (own_w hw 97 rfl) (own_w hw 96 rfl) (own_w hw 87 rfl) e1 (g := (mkF m 8 #[.val (.double a), .second] [(.double a)])) rfl (by rw [hml]; rfl) rfl (hb hby own_d_jdk_117_23_8) (by decide) (by show 2 * 0 + 0 + _ ≤ _; decide)
  refine own_st (fun u_ k_ => st2 u_ k_) ?_
  show own_Go p e below _ (T2.setTop (mkF m 11 #[.val (.double a), .second] [(.long (a.toInt64))]))
  exact own_retX X2 hx hlk hret rfl (Or.inr (Or.inl ⟨rfl, rfl, _, rfl⟩)) (hb hby own_d_jdk_117_23_11) (by decide) (by decide) (show QrmBits Z w0 wl wp mr a h0 n0 (some (.long (a.toInt64))) T2.heap _ from (by rw [e2]; exact ⟨rfl, N1, rfl⟩))
theorem own_d_jdk_117_27_0 : decode jdk_117_method_27_code 0 = .ok (.dload_n 0, 1) := by decide +kernel
theorem own_d_jdk_117_27_1 : decode jdk_117_method_27_code 1 = .ok (.dload_n 2, 1) := by decide +kernel
theorem own_d_jdk_117_27_2 : decode jdk_117_method_27_code 2 = .ok (.dcmp .g, 1) := by decide +kernel
theorem own_d_jdk_117_27_3 : decode jdk_117_method_27_code 3 = .ok (.ifCond .ge 5, 3) := by decide +kernel
theorem own_d_jdk_117_27_6 : decode jdk_117_method_27_code 6 = .ok (.iconst (-1), 1) := by decide +kernel
theorem own_d_jdk_117_27_7 : decode jdk_117_method_27_code 7 = .ok (.ireturn, 1) := by decide +kernel
theorem own_d_jdk_117_27_8 : decode jdk_117_method_27_code 8 = .ok (.dload_n 0, 1) := by decide +kernel
theorem own_d_jdk_117_27_9 : decode jdk_117_method_27_code 9 = .ok (.dload_n 2, 1) := by decide +kernel
theorem own_d_jdk_117_27_10 : decode jdk_117_method_27_code 10 = .ok (.dcmp .l, 1) := by decide +kernel
theorem own_d_jdk_117_27_11 : decode jdk_117_method_27_code 11 = .ok (.ifCond .le 5, 3) := by decide +kernel
theorem own_d_jdk_117_27_14 : decode jdk_117_method_27_code 14 = .ok (.iconst 1, 1) := by decide +kernel
theorem own_d_jdk_117_27_15 : decode jdk_117_method_27_code 15 = .ok (.ireturn, 1) := by decide +kernel
theorem own_d_jdk_117_27_16 : decode jdk_117_method_27_code 16 = .ok (.dload_n 0, 1) := by decide +kernel
theorem own_d_jdk_117_27_17 : decode jdk_117_method_27_code 17 = .ok (.invokestatic 46, 3) := by decide +kernel
theorem own_pd_32 : parseMethodDescriptor "(D)J" = some ⟨[.double], some .long⟩ := by decide +kernel
theorem own_d_jdk_117_27_20 : decode jdk_117_method_27_code 20 = .ok (.lstore 4, 2) := by decide +kernel
theorem own_d_jdk_117_27_22 : decode jdk_117_method_27_code 22 = .ok (.dload_n 2, 1) := by decide +kernel
theorem own_d_jdk_117_27_23 : decode jdk_117_method_27_code 23 = .ok (.invokestatic 46, 3) := by decide +kernel
theorem own_d_jdk_117_27_26 : decode jdk_117_method_27_code 26 = .ok (.lstore 6, 2) := by decide +kernel
theorem own_d_jdk_117_27_28 : decode jdk_117_method_27_code 28 = .ok (.lload 4, 2) := by decide +kernel
theorem own_d_jdk_117_27_30 : decode jdk_117_method_27_code 30 = .ok (.lload 6, 2) := by decide +kernel
theorem own_d_jdk_117_27_32 : decode jdk_117_method_27_code 32 = .ok (.lcmp, 1) := by decide +kernel
theorem own_d_jdk_117_27_33 : decode jdk_117_method_27_code 33 = .ok (.ifCond .ne 7, 3) := by decide +kernel
theorem own_d_jdk_117_27_36 : decode jdk_117_method_27_code 36 = .ok (.iconst 0, 1) := by decide +kernel
theorem own_d_jdk_117_27_37 : decode jdk_117_method_27_code 37 = .ok (.goto 16, 3) := by decide +kernel
theorem own_d_jdk_117_27_53 : decode jdk_117_method_27_code 53 = .ok (.ireturn, 1) := by decide +kernel
theorem own_d_jdk_117_27_40 : decode jdk_117_method_27_code 40 = .ok (.lload 4, 2) := by decide +kernel
theorem own_d_jdk_117_27_42 : decode jdk_117_method_27_code 42 = .ok (.lload 6, 2) := by decide +kernel
theorem own_d_jdk_117_27_44 : decode jdk_117_method_27_code 44 = .ok (.lcmp, 1) := by decide +kernel
theorem own_d_jdk_117_27_45 : decode jdk_117_method_27_code 45 = .ok (.ifCond .ge 7, 3) := by decide +kernel
theorem own_d_jdk_117_27_48 : decode jdk_117_method_27_code 48 = .ok (.iconst (-1), 1) := by decide +kernel
theorem own_d_jdk_117_27_49 : decode jdk_117_method_27_code 49 = .ok (.goto 4, 3) := by decide +kernel
theorem own_d_jdk_117_27_52 : decode jdk_117_method_27_code 52 = .ok (.iconst 1, 1) := by decide +kernel
abbrev own_y_51 : MethodName := ⟨"java/lang/Double", "compare", "(DD)I"⟩
theorem own_ef_rmDC (m : MethodId) (a : UInt64) (b : UInt64)  : entryFrame m #[(.double a), (.double b)] 8 = mkF m 0 #[.val (.double a), .second, .val (.double b), .second, .unset, .unset, .unset, .unset] [] := by first | (simp [entryFrame, mkF, argsToLocals, Value.category, maxLocals]; done) | rfl
def QrmDC (Z : State) (w0 wl wp mr : Addr) (a : UInt64) (b : UInt64) (h0 : Heap) (n0 : Nat) (v : Option Value) (h : Heap) (L : List Loc) : Prop := ∃ r : Int32, v = some (.int r) ∧ Fr n0 L ∧ h = h0 ∧ (r = (0 : Int32) ↔ a = b)
set_option maxRecDepth 65536 in
set_option maxHeartbeats 40000000 in
theorem rmDC (l : Launch) (Z : State) (a0 : Array Value) (hw : own_H a0 Z) (ws : List Jvm.Cond) (w0 wl wp mr : Addr) (hS : own_S Z w0 wl wp mr) (a : UInt64) (b : UInt64) (h0 : Heap) (n0 : Nat) (O0 : Old Z n0 h0) (na : FP.Core.val64 a ≠ .nan) (nb : FP.Core.val64 b ≠ .nan) :
    own_Met l own_y_51 jdk_117_method_27_code 8 (some .int) ws ({ frames := 2, cells := 0, slots := 0, locals := 44 } : Room) Z h0 #[(.double a), (.double b)] (QrmDC Z w0 wl wp mr a b h0 n0) := by
  refine own_body (plainFor_of_name own_pn_8) ?_
  intro p e s m below meth c s₁ hx hby hml hown hnm hret hlk hZ e0 X0
  have N0 := Fr.nil n0
  refine own_st (fun u_ k_ => castTop (own_ef_rmDC m a b) k_) ?_
  show own_Go p e below _ (s₁.setTop (mkF m 0 #[.val (.double a), .second, .val (.double b), .second, .unset, .unset, .unset, .unset] []))
  refine own_st (fun u_ k_ => XS.dloadN X0.here hx rfl (hb hby own_d_jdk_117_27_0) rfl k_) ?_
  refine own_st (fun u_ k_ => XS.dloadN X0.here hx rfl (hb hby own_d_jdk_117_27_1) rfl k_) ?_
  show own_Go p e below _ (s₁.setTop (mkF m 2 #[.val (.double a), .second, .val (.double b), .second, .unset, .unset, .unset, .unset] [(.double b), (.double a)]))
  refine own_st (fun u_ k_ => XS.dcmpS X0.here hx rfl (hb hby own_d_jdk_117_27_2) rfl rfl k_) ?_
  by_cases hc3 : (cmpValue (FP.dcmp a b) .g) < (0 : Int32)
  · refine own_st (fun u_ k_ => XS.ifNo X0.here hx rfl (hb hby own_d_jdk_117_27_3) rfl (XT.i0_ge_f hc3) k_) ?_
    show own_Go p e below _ (s₁.setTop (mkF m 6 #[.val (.double a), .second, .val (.double b), .second, .unset, .unset, .unset, .unset] []))
    refine own_st (fun u_ k_ => XS.iconst X0.here hx rfl (hb hby own_d_jdk_117_27_6) k_) ?_
    exact own_retX X0 hx hlk hret rfl (Or.inl ⟨rfl, by simp, _, rfl⟩) (hb hby own_d_jdk_117_27_7) (by decide) (by decide) (show QrmDC Z w0 wl wp mr a b h0 n0 (some (.int (-1 : Int32))) s₁.heap _ from (by rw [e0]; exact ⟨(-1 : Int32), rfl, N0, rfl, (own_dq1 na hc3)⟩))
  · refine own_st (fun u_ k_ => XS.ifYes X0.here hx rfl (pc0 := 3) (pc' := 8) rfl (hb hby own_d_jdk_117_27_3) rfl (XT.i0_ge_t hc3) (by decide) (by decide) k_) ?_
    show own_Go p e below _ (s₁.setTop (mkF m 8 #[.val (.double a), .second, .val (.double b), .second, .unset, .unset, .unset, .unset] []))
    refine own_st (fun u_ k_ => XS.dloadN X0.here hx rfl (hb hby own_d_jdk_117_27_8) rfl k_) ?_
    refine own_st (fun u_ k_ => XS.dloadN X0.here hx rfl (hb hby own_d_jdk_117_27_9) rfl k_) ?_
    show own_Go p e below _ (s₁.setTop (mkF m 10 #[.val (.double a), .second, .val (.double b), .second, .unset, .unset, .unset, .unset] [(.double b), (.double a)]))
    refine own_st (fun u_ k_ => XS.dcmpS X0.here hx rfl (hb hby own_d_jdk_117_27_10) rfl rfl k_) ?_
    by_cases hc4 : (0 : Int32) < (cmpValue (FP.dcmp a b) .l)
    · refine own_st (fun u_ k_ => XS.ifNo X0.here hx rfl (hb hby own_d_jdk_117_27_11) rfl (XT.i0_le_f hc4) k_) ?_
      show own_Go p e below _ (s₁.setTop (mkF m 14 #[.val (.double a), .second, .val (.double b), .second, .unset, .unset, .unset, .unset] []))
      refine own_st (fun u_ k_ => XS.iconst X0.here hx rfl (hb hby own_d_jdk_117_27_14) k_) ?_
      exact own_retX X0 hx hlk hret rfl (Or.inl ⟨rfl, by simp, _, rfl⟩) (hb hby own_d_jdk_117_27_15) (by decide) (by decide) (show QrmDC Z w0 wl wp mr a b h0 n0 (some (.int (1 : Int32))) s₁.heap _ from (by rw [e0]; exact ⟨(1 : Int32), rfl, N0, rfl, (own_dq2 na hc4)⟩))
    · refine own_st (fun u_ k_ => XS.ifYes X0.here hx rfl (pc0 := 11) (pc' := 16) rfl (hb hby own_d_jdk_117_27_11) rfl (XT.i0_le_t hc4) (by decide) (by decide) k_) ?_
      show own_Go p e below _ (s₁.setTop (mkF m 16 #[.val (.double a), .second, .val (.double b), .second, .unset, .unset, .unset, .unset] []))
      refine own_st (fun u_ k_ => XS.dloadN X0.here hx rfl (hb hby own_d_jdk_117_27_16) rfl k_) ?_
      obtain ⟨T5, v5, L5, X5, hQ5, st5⟩ := own_callS X0 hx hZ (y := own_y_17) hown (own_w hw 89 rfl) (own_w hw 90 rfl) (own_w hw 87 rfl) (own_w hw 91 rfl) own_lm_11 (rmBits l Z a0 hw [] w0 wl wp mr hS a h0 n0 O0 na) e0 own_pd_32 (argsL := [(.double a)]) (rest := []) rfl rfl (g := (mkF m 17 #[.val (.double a), .second, .val (.double b), .second, .unset, .unset, .unset, .unset] [(.double a)])) rfl (by rw [hml]; rfl) rfl (hb hby own_d_jdk_117_27_17) (W := 0) rfl (by decide) (by decide) (by decide) (by decide)
      obtain ⟨rfl, M5, e5⟩ := hQ5
      have N5 := Fr.app N0 M5
      refine own_st (fun u_ k_ => st5 u_ k_) ?_
      show own_Go p e below _ (T5.setTop (mkF m 20 #[.val (.double a), .second, .val (.double b), .second, .unset, .unset, .unset, .unset] [(.long (a.toInt64))]))
      refine own_st (fun u_ k_ => XS.lstore X5.here hx rfl (hb hby own_d_jdk_117_27_20) rfl (l' := #[.val (.double a), .second, .val (.double b), .second, .val (.long (a.toInt64)), .second, .unset, .unset]) rfl k_) ?_
      refine own_st (fun u_ k_ => XS.dloadN X5.here hx rfl (hb hby own_d_jdk_117_27_22) rfl k_) ?_
      show own_Go p e below _ (T5.setTop (mkF m 23 #[.val (.double a), .second, .val (.double b), .second, .val (.long (a.toInt64)), .second, .unset, .unset] [(.double b)]))
      obtain ⟨T6, v6, L6, X6, hQ6, st6⟩ := own_callS X5 hx hZ (y := own_y_17) hown (own_w hw 89 rfl) (own_w hw 90 rfl) (own_w hw 87 rfl) (own_w hw 91 rfl) own_lm_11 (rmBits l Z a0 hw [] w0 wl wp mr hS b h0 n0 O0 nb) e5 own_pd_32 (argsL := [(.double b)]) (rest := []) rfl rfl (g := (mkF m 23 #[.val (.double a), .second, .val (.double b), .second, .val (.long (a.toInt64)), .second, .unset, .unset] [(.double b)])) rfl (by rw [hml]; rfl) rfl (hb hby own_d_jdk_117_27_23) (W := 0) rfl (by decide) (by decide) (by decide) (by decide)
      obtain ⟨rfl, M6, e6⟩ := hQ6
      have N6 := Fr.app N5 M6
      refine own_st (fun u_ k_ => st6 u_ k_) ?_
      show own_Go p e below _ (T6.setTop (mkF m 26 #[.val (.double a), .second, .val (.double b), .second, .val (.long (a.toInt64)), .second, .unset, .unset] [(.long (b.toInt64))]))
      refine own_st (fun u_ k_ => XS.lstore X6.here hx rfl (hb hby own_d_jdk_117_27_26) rfl (l' := #[.val (.double a), .second, .val (.double b), .second, .val (.long (a.toInt64)), .second, .val (.long (b.toInt64)), .second]) rfl k_) ?_
      refine own_st (fun u_ k_ => XS.lload X6.here hx rfl (hb hby own_d_jdk_117_27_28) rfl k_) ?_
      show own_Go p e below _ (T6.setTop (mkF m 30 #[.val (.double a), .second, .val (.double b), .second, .val (.long (a.toInt64)), .second, .val (.long (b.toInt64)), .second] [(.long (a.toInt64))]))
      refine own_st (fun u_ k_ => XS.lload X6.here hx rfl (hb hby own_d_jdk_117_27_30) rfl k_) ?_
      refine own_st (fun u_ k_ => XS.lcmp X6.here hx rfl (hb hby own_d_jdk_117_27_32) rfl k_) ?_
      show own_Go p e below _ (T6.setTop (mkF m 33 #[.val (.double a), .second, .val (.double b), .second, .val (.long (a.toInt64)), .second, .val (.long (b.toInt64)), .second] [(.int (lcmpW (a.toInt64) (b.toInt64)))]))
      by_cases hc7 : (lcmpW (a.toInt64) (b.toInt64)) = (0 : Int32)
      · refine own_st (fun u_ k_ => XS.ifNo X6.here hx rfl (hb hby own_d_jdk_117_27_33) rfl (XT.i0_ne_f hc7) k_) ?_
        refine own_st (fun u_ k_ => XS.iconst X6.here hx rfl (hb hby own_d_jdk_117_27_36) k_) ?_
        show own_Go p e below _ (T6.setTop (mkF m 37 #[.val (.double a), .second, .val (.double b), .second, .val (.long (a.toInt64)), .second, .val (.long (b.toInt64)), .second] [(.int (0 : Int32))]))
        refine own_st (fun u_ k_ => XS.goto X6.here hx rfl (pc0 := 37) (pc' := 53) rfl (hb hby own_d_jdk_117_27_37) (by decide) (by decide) k_) ?_
        exact own_retX X6 hx hlk hret rfl (Or.inl ⟨rfl, by simp, _, rfl⟩) (hb hby own_d_jdk_117_27_53) (by decide) (by decide) (show QrmDC Z w0 wl wp mr a b h0 n0 (some (.int (0 : Int32))) T6.heap _ from (by rw [e6]; exact ⟨(0 : Int32), rfl, N6, rfl, (own_dq3 hc7)⟩))
      · refine own_st (fun u_ k_ => XS.ifYes X6.here hx rfl (pc0 := 33) (pc' := 40) rfl (hb hby own_d_jdk_117_27_33) rfl (XT.i0_ne_t hc7) (by decide) (by decide) k_) ?_
        refine own_st (fun u_ k_ => XS.lload X6.here hx rfl (hb hby own_d_jdk_117_27_40) rfl k_) ?_
        show own_Go p e below _ (T6.setTop (mkF m 42 #[.val (.double a), .second, .val (.double b), .second, .val (.long (a.toInt64)), .second, .val (.long (b.toInt64)), .second] [(.long (a.toInt64))]))
        refine own_st (fun u_ k_ => XS.lload X6.here hx rfl (hb hby own_d_jdk_117_27_42) rfl k_) ?_
        refine own_st (fun u_ k_ => XS.lcmp X6.here hx rfl (hb hby own_d_jdk_117_27_44) rfl k_) ?_
        show own_Go p e below _ (T6.setTop (mkF m 45 #[.val (.double a), .second, .val (.double b), .second, .val (.long (a.toInt64)), .second, .val (.long (b.toInt64)), .second] [(.int (lcmpW (a.toInt64) (b.toInt64)))]))
        by_cases hc8 : (lcmpW (a.toInt64) (b.toInt64)) < (0 : Int32)
        · refine own_st (fun u_ k_ => XS.ifNo X6.here hx rfl (hb hby own_d_jdk_117_27_45) rfl (XT.i0_ge_f hc8) k_) ?_
          refine own_st (fun u_ k_ => XS.iconst X6.here hx rfl (hb hby own_d_jdk_117_27_48) k_) ?_
          show own_Go p e below _ (T6.setTop (mkF m 49 #[.val (.double a), .second, .val (.double b), .second, .val (.long (a.toInt64)), .second, .val (.long (b.toInt64)), .second] [(.int (-1 : Int32))]))
          refine own_st (fun u_ k_ => XS.goto X6.here hx rfl (pc0 := 49) (pc' := 53) rfl (hb hby own_d_jdk_117_27_49) (by decide) (by decide) k_) ?_
          exact own_retX X6 hx hlk hret rfl (Or.inl ⟨rfl, by simp, _, rfl⟩) (hb hby own_d_jdk_117_27_53) (by decide) (by decide) (show QrmDC Z w0 wl wp mr a b h0 n0 (some (.int (-1 : Int32))) T6.heap _ from (by rw [e6]; exact ⟨(-1 : Int32), rfl, N6, rfl, (own_dq4 (by decide) hc7)⟩))
        · refine own_st (fun u_ k_ => XS.ifYes X6.here hx rfl (pc0 := 45) (pc' := 52) rfl (hb hby own_d_jdk_117_27_45) rfl (XT.i0_ge_t hc8) (by decide) (by decide) k_) ?_
          refine own_st (fun u_ k_ => XS.iconst X6.here hx rfl (hb hby own_d_jdk_117_27_52) k_) ?_
          show own_Go p e below _ (T6.setTop (mkF m 53 #[.val (.double a), .second, .val (.double b), .second, .val (.long (a.toInt64)), .second, .val (.long (b.toInt64)), .second] [(.int (1 : Int32))]))
          exact own_retX X6 hx hlk hret rfl (Or.inl ⟨rfl, by simp, _, rfl⟩) (hb hby own_d_jdk_117_27_53) (by decide) (by decide) (show QrmDC Z w0 wl wp mr a b h0 n0 (some (.int (1 : Int32))) T6.heap _ from (by rw [e6]; exact ⟨(1 : Int32), rfl, N6, rfl, (own_dq4 (by decide) hc7)⟩))
theorem own_d_prog_21_18_0 : decode prog_21_method_18_code 0 = .ok (.aload_n 0, 1) := by decide +kernel
theorem own_d_prog_21_18_1 : decode prog_21_method_18_code 1 = .ok (.getfield 7, 3) := by decide +kernel
theorem own_d_prog_21_18_4 : decode prog_21_method_18_code 4 = .ok (.aload_n 1, 1) := by decide +kernel
theorem own_d_prog_21_18_5 : decode prog_21_method_18_code 5 = .ok (.getfield 7, 3) := by decide +kernel
theorem own_d_prog_21_18_8 : decode prog_21_method_18_code 8 = .ok (.invokevirtual 169, 3) := by decide +kernel
theorem own_d_jdk_37_8_0 : decode jdk_37_method_8_code 0 = .ok (.aload_n 1, 1) := by decide +kernel
theorem own_d_jdk_37_8_1 : decode jdk_37_method_8_code 1 = .ok (.astore_n 2, 1) := by decide +kernel
theorem own_d_jdk_37_8_2 : decode jdk_37_method_8_code 2 = .ok (.aload_n 0, 1) := by decide +kernel
theorem own_d_jdk_37_8_3 : decode jdk_37_method_8_code 3 = .ok (.astore_n 3, 1) := by decide +kernel
theorem own_d_jdk_37_8_4 : decode jdk_37_method_8_code 4 = .ok (.aload_n 3, 1) := by decide +kernel
theorem own_d_jdk_37_8_5 : decode jdk_37_method_8_code 5 = .ok (.invokevirtual 29, 3) := by decide +kernel
theorem own_d_jdk_37_8_8 : decode jdk_37_method_8_code 8 = .ok (.aload_n 2, 1) := by decide +kernel
theorem own_d_jdk_37_8_9 : decode jdk_37_method_8_code 9 = .ok (.invokevirtual 29, 3) := by decide +kernel
theorem own_d_jdk_37_8_12 : decode jdk_37_method_8_code 12 = .ok (.if_acmp .eq 22, 3) := by decide +kernel
theorem own_d_jdk_37_8_34 : decode jdk_37_method_8_code 34 = .ok (.aload_n 3, 1) := by decide +kernel
theorem own_d_jdk_37_8_35 : decode jdk_37_method_8_code 35 = .ok (.getfield 7, 3) := by decide +kernel
theorem own_d_jdk_37_8_38 : decode jdk_37_method_8_code 38 = .ok (.aload_n 2, 1) := by decide +kernel
theorem own_d_jdk_37_8_39 : decode jdk_37_method_8_code 39 = .ok (.getfield 7, 3) := by decide +kernel
theorem own_d_jdk_37_8_42 : decode jdk_37_method_8_code 42 = .ok (.isub, 1) := by decide +kernel
theorem own_d_jdk_37_8_43 : decode jdk_37_method_8_code 43 = .ok (.ireturn, 1) := by decide +kernel
abbrev own_y_72 : MethodName := ⟨"java/lang/Enum", "compareTo", "(Ljava/lang/Enum;)I"⟩
theorem own_pn_73 : plainName "java/lang/Enum" = true := by first | (simp [plainName, overriddenIn]; done) | decide +kernel
theorem own_ef_rmU0 (m : MethodId) (w0 : Addr)  : entryFrame m #[(.ref w0), (.ref w0)] 4 = mkF m 0 #[.val (.ref w0), .val (.ref w0), .unset, .unset] [] := by first | (simp [entryFrame, mkF, argsToLocals, Value.category, maxLocals]; done) | rfl
def QrmU0 (Z : State) (w0 wl wp mr : Addr)  (h0 : Heap) (n0 : Nat) (v : Option Value) (h : Heap) (L : List Loc) : Prop := v = some (.int (0 : Int32)) ∧ Fr n0 L ∧ h = h0
set_option maxRecDepth 65536 in
set_option maxHeartbeats 40000000 in
theorem rmU0 (l : Launch) (Z : State) (a0 : Array Value) (hw : own_H a0 Z) (ws : List Jvm.Cond) (w0 wl wp mr : Addr) (hS : own_S Z w0 wl wp mr)  (h0 : Heap) (n0 : Nat) (O0 : Old Z n0 h0)  :
    own_Met l own_y_72 jdk_37_method_8_code 4 (some .int) ws ({ frames := 1, cells := 0, slots := 0, locals := 28 } : Room) Z h0 #[(.ref w0), (.ref w0)] (QrmU0 Z w0 wl wp mr  h0 n0) := by
  refine own_body (plainFor_of_name own_pn_73) ?_
  intro p e s m below meth c s₁ hx hby hml hown hnm hret hlk hZ e0 X0
  have N0 := Fr.nil n0
  refine own_st (fun u_ k_ => castTop (own_ef_rmU0 m w0) k_) ?_
  show own_Go p e below _ (s₁.setTop (mkF m 0 #[.val (.ref w0), .val (.ref w0), .unset, .unset] []))
  refine own_st (fun u_ k_ => XS.aloadN X0.here hx rfl (hb hby own_d_jdk_37_8_0) rfl rfl k_) ?_
  refine own_st (fun u_ k_ => XS.astoreN X0.here hx rfl (hb hby own_d_jdk_37_8_1) rfl rfl (l' := #[.val (.ref w0), .val (.ref w0), .val (.ref w0), .unset]) rfl k_) ?_
  show own_Go p e below _ (s₁.setTop (mkF m 2 #[.val (.ref w0), .val (.ref w0), .val (.ref w0), .unset] []))
  refine own_st (fun u_ k_ => XS.aloadN X0.here hx rfl (hb hby own_d_jdk_37_8_2) rfl rfl k_) ?_
  refine own_st (fun u_ k_ => XS.astoreN X0.here hx rfl (hb hby own_d_jdk_37_8_3) rfl rfl (l' := #[.val (.ref w0), .val (.ref w0), .val (.ref w0), .val (.ref w0)]) rfl k_) ?_
  show own_Go p e below _ (s₁.setTop (mkF m 4 #[.val (.ref w0), .val (.ref w0), .val (.ref w0), .val (.ref w0)] []))
  refine own_st (fun u_ k_ => XS.aloadN X0.here hx rfl (hb hby own_d_jdk_37_8_4) rfl rfl k_) ?_
  have F17 := Exa.ext O0.2 hS.2.1
  obtain ⟨T18, X18, e18, st18⟩ := own_gcls X0 hx hZ hown (own_w hw 71 rfl) (own_w hw 72 rfl) (own_w hw 74 rfl) (own_w hw 73 rfl) (own_w hw 75 rfl) e0 F17 hS.2.2.2.2.2 (g := (mkF m 5 #[.val (.ref w0), .val (.ref w0), .val (.ref w0), .val (.ref w0)] [(.ref w0)])) rfl (by rw [hml]; rfl) rfl (hb hby own_d_jdk_37_8_5) (by decide) (W := 0) (by show 2 * 0 + _ ≤ _; exact Nat.le_of_eq rfl) (by decide)
  refine own_st (fun u_ k_ => st18 u_ k_) ?_
  show own_Go p e below _ (T18.setTop (mkF m 8 #[.val (.ref w0), .val (.ref w0), .val (.ref w0), .val (.ref w0)] [(.ref mr)]))
  refine own_st (fun u_ k_ => XS.aloadN X18.here hx rfl (hb hby own_d_jdk_37_8_8) rfl rfl k_) ?_
  obtain ⟨T19, X19, e19, st19⟩ := own_gcls X18 hx hZ hown (own_w hw 71 rfl) (own_w hw 72 rfl) (own_w hw 74 rfl) (own_w hw 73 rfl) (own_w hw 75 rfl) e18 F17 hS.2.2.2.2.2 (g := (mkF m 9 #[.val (.ref w0), .val (.ref w0), .val (.ref w0), .val (.ref w0)] [(.ref w0), (.ref mr)])) rfl (by rw [hml]; rfl) rfl (hb hby own_d_jdk_37_8_9) (by decide) (W := 1) (by show 2 * 0 + _ ≤ _; exact Nat.le_of_eq rfl) (by decide)
  refine own_st (fun u_ k_ => st19 u_ k_) ?_
  show own_Go p e below _ (T19.setTop (mkF m 12 #[.val (.ref w0), .val (.ref w0), .val (.ref w0), .val (.ref w0)] [(.ref mr), (.ref mr)]))
  refine own_st (fun u_ k_ => XT.acmpYes X19.here hx rfl (pc0 := 12) (pc' := 34) rfl (hb hby own_d_jdk_37_8_12) rfl rfl rfl (XT.aa_eq_t rfl) (by decide) (by decide) k_) ?_
  show own_Go p e below _ (T19.setTop (mkF m 34 #[.val (.ref w0), .val (.ref w0), .val (.ref w0), .val (.ref w0)] []))
  refine own_st (fun u_ k_ => XS.aloadN X19.here hx rfl (hb hby own_d_jdk_37_8_34) rfl rfl k_) ?_
  have F20 := Fld.ext O0.2 hS.2.2.1
  obtain ⟨T21, X21, e21, st21⟩ := getF X19 hx hZ hown (host := "") (Or.inl (own_w hw 77 rfl)) Via.refl e19 F20 (g := (mkF m 35 #[.val (.ref w0), .val (.ref w0), .val (.ref w0), .val (.ref w0)] [(.ref w0)])) rfl rfl (hb hby own_d_jdk_37_8_35)
  refine own_st (fun u_ k_ => st21 u_ k_) ?_
  show own_Go p e below _ (T21.setTop (mkF m 38 #[.val (.ref w0), .val (.ref w0), .val (.ref w0), .val (.ref w0)] [(.int (7 : Int32))]))
  refine own_st (fun u_ k_ => XS.aloadN X21.here hx rfl (hb hby own_d_jdk_37_8_38) rfl rfl k_) ?_
  obtain ⟨T22, X22, e22, st22⟩ := getF X21 hx hZ hown (host := "") (Or.inl (own_w hw 77 rfl)) Via.refl e21 F20 (g := (mkF m 39 #[.val (.ref w0), .val (.ref w0), .val (.ref w0), .val (.ref w0)] [(.ref w0), (.int (7 : Int32))])) rfl rfl (hb hby own_d_jdk_37_8_39)
  refine own_st (fun u_ k_ => st22 u_ k_) ?_
  show own_Go p e below _ (T22.setTop (mkF m 42 #[.val (.ref w0), .val (.ref w0), .val (.ref w0), .val (.ref w0)] [(.int (7 : Int32)), (.int (7 : Int32))]))
  refine own_st (fun u_ k_ => XS.isub X22.here hx rfl (hb hby own_d_jdk_37_8_42) rfl k_) ?_
  exact own_retX X22 hx hlk hret rfl (Or.inl ⟨rfl, by simp, _, rfl⟩) (hb hby own_d_jdk_37_8_43) (by decide) (by decide) (show QrmU0 Z w0 wl wp mr  h0 n0 (some (.int (0 : Int32))) T22.heap _ from (by rw [e22]; exact ⟨rfl, N0, rfl⟩))
abbrev own_y_74 : MethodName := ⟨"com/example/tasdik/tasdik/core/cbor/CborValue$Type", "compareTo", "(Ljava/lang/Enum;)I"⟩
theorem own_lm_75 : ("java/lang/Enum" : String) ≠ "java/lang/invoke/MethodHandle" ∧ ("java/lang/Enum" : String) ≠ "java/lang/invoke/VarHandle" := by decide +kernel
theorem own_pd_76 : parseMethodDescriptor "(Ljava/lang/Enum;)I" = some ⟨[(.object "java/lang/Enum")], some .int⟩ := by decide +kernel
theorem own_d_prog_21_18_11 : decode prog_21_method_18_code 11 = .ok (.istore_n 2, 1) := by decide +kernel
theorem own_d_prog_21_18_12 : decode prog_21_method_18_code 12 = .ok (.iload_n 2, 1) := by decide +kernel
theorem own_d_prog_21_18_13 : decode prog_21_method_18_code 13 = .ok (.ifCond .ne 175, 3) := by decide +kernel
theorem own_d_prog_21_18_16 : decode prog_21_method_18_code 16 = .ok (.aload_n 0, 1) := by decide +kernel
theorem own_d_prog_21_18_17 : decode prog_21_method_18_code 17 = .ok (.getfield 7, 3) := by decide +kernel
theorem own_d_prog_21_18_20 : decode prog_21_method_18_code 20 = .ok (.invokevirtual 173, 3) := by decide +kernel
theorem own_d_jdk_37_2_0 : decode jdk_37_method_2_code 0 = .ok (.aload_n 0, 1) := by decide +kernel
theorem own_d_jdk_37_2_1 : decode jdk_37_method_2_code 1 = .ok (.getfield 7, 3) := by decide +kernel
theorem own_d_jdk_37_2_4 : decode jdk_37_method_2_code 4 = .ok (.ireturn, 1) := by decide +kernel
abbrev own_y_86 : MethodName := ⟨"java/lang/Enum", "ordinal", "()I"⟩
theorem own_ef_rmU1 (m : MethodId) (w0 : Addr)  : entryFrame m #[(.ref w0)] 1 = mkF m 0 #[.val (.ref w0)] [] := by first | (simp [entryFrame, mkF, argsToLocals, Value.category, maxLocals]; done) | rfl
def QrmU1 (Z : State) (w0 wl wp mr : Addr)  (h0 : Heap) (n0 : Nat) (v : Option Value) (h : Heap) (L : List Loc) : Prop := v = some (.int (7 : Int32)) ∧ Fr n0 L ∧ h = h0
set_option maxRecDepth 65536 in
set_option maxHeartbeats 40000000 in
theorem rmU1 (l : Launch) (Z : State) (a0 : Array Value) (hw : own_H a0 Z) (ws : List Jvm.Cond) (w0 wl wp mr : Addr) (hS : own_S Z w0 wl wp mr)  (h0 : Heap) (n0 : Nat) (O0 : Old Z n0 h0)  :
    own_Met l own_y_86 jdk_37_method_2_code 1 (some .int) ws ({ frames := 0, cells := 0, slots := 0, locals := 0 } : Room) Z h0 #[(.ref w0)] (QrmU1 Z w0 wl wp mr  h0 n0) := by
  refine own_body (plainFor_of_name own_pn_73) ?_
  intro p e s m below meth c s₁ hx hby hml hown hnm hret hlk hZ e0 X0
  have N0 := Fr.nil n0
  refine own_st (fun u_ k_ => castTop (own_ef_rmU1 m w0) k_) ?_
  show own_Go p e below _ (s₁.setTop (mkF m 0 #[.val (.ref w0)] []))
  refine own_st (fun u_ k_ => XS.aloadN X0.here hx rfl (hb hby own_d_jdk_37_2_0) rfl rfl k_) ?_
  have F28 := Fld.ext O0.2 hS.2.2.1
  obtain ⟨T29, X29, e29, st29⟩ := getF X0 hx hZ hown (host := "") (Or.inl (own_w hw 77 rfl)) Via.refl e0 F28 (g := (mkF m 1 #[.val (.ref w0)] [(.ref w0)])) rfl rfl (hb hby own_d_jdk_37_2_1)
  refine own_st (fun u_ k_ => st29 u_ k_) ?_
  show own_Go p e below _ (T29.setTop (mkF m 4 #[.val (.ref w0)] [(.int (7 : Int32))]))
  exact own_retX X29 hx hlk hret rfl (Or.inl ⟨rfl, by simp, _, rfl⟩) (hb hby own_d_jdk_37_2_4) (by decide) (by decide) (show QrmU1 Z w0 wl wp mr  h0 n0 (some (.int (7 : Int32))) T29.heap _ from (by rw [e29]; exact ⟨rfl, N0, rfl⟩))
abbrev own_y_87 : MethodName := ⟨"com/example/tasdik/tasdik/core/cbor/CborValue$Type", "ordinal", "()I"⟩
theorem own_pd_88 : parseMethodDescriptor "()I" = some ⟨[], some .int⟩ := by decide +kernel
theorem own_d_prog_21_18_23 : decode prog_21_method_18_code 23 = .ok (.tableswitch 45 0 7 #[55, 69, 69, 83, 97, 111, 55, 153], 45) := by decide +kernel
theorem own_d_prog_21_18_176 : decode prog_21_method_18_code 176 = .ok (.aload_n 0, 1) := by decide +kernel
theorem own_d_prog_21_18_177 : decode prog_21_method_18_code 177 = .ok (.getfield 17, 3) := by decide +kernel
theorem own_d_prog_21_18_180 : decode prog_21_method_18_code 180 = .ok (.aload_n 1, 1) := by decide +kernel
theorem own_d_prog_21_18_181 : decode prog_21_method_18_code 181 = .ok (.getfield 17, 3) := by decide +kernel
theorem own_d_prog_21_18_184 : decode prog_21_method_18_code 184 = .ok (.invokestatic 201, 3) := by decide +kernel
theorem own_pd_95 : parseMethodDescriptor "(DD)I" = some ⟨[.double, .double], some .int⟩ := by decide +kernel
theorem own_d_prog_21_18_187 : decode prog_21_method_18_code 187 = .ok (.istore_n 2, 1) := by decide +kernel
theorem own_d_prog_21_18_188 : decode prog_21_method_18_code 188 = .ok (.iload_n 2, 1) := by decide +kernel
theorem own_d_prog_21_18_189 : decode prog_21_method_18_code 189 = .ok (.ireturn, 1) := by decide +kernel
abbrev own_y_99 : MethodName := ⟨"com/example/tasdik/tasdik/core/cbor/CborValue", "compare", "(Lcom/example/tasdik/tasdik/core/cbor/CborValue;Lcom/example/tasdik/tasdik/core/cbor/CborValue;)I"⟩
theorem own_pn_100 : plainName "com/example/tasdik/tasdik/core/cbor/CborValue" = true := by first | (simp [plainName, overriddenIn]; done) | decide +kernel
theorem own_ef_rmCmp (m : MethodId) (vx : Addr) (vy : Addr)  : entryFrame m #[(.ref vx), (.ref vy)] 3 = mkF m 0 #[.val (.ref vx), .val (.ref vy), .unset] [] := by first | (simp [entryFrame, mkF, argsToLocals, Value.category, maxLocals]; done) | rfl
def QrmCmp (Z : State) (w0 wl wp mr : Addr) (vx : Addr) (vy : Addr) (a : UInt64) (b : UInt64) (h0 : Heap) (n0 : Nat) (v : Option Value) (h : Heap) (L : List Loc) : Prop := ∃ r : Int32, v = some (.int r) ∧ Fr n0 L ∧ h = h0 ∧ (r = (0 : Int32) ↔ a = b)
set_option maxRecDepth 65536 in
set_option maxHeartbeats 40000000 in
abbrev own_c_101 : String := "com/example/tasdik/tasdik/core/cbor/CborValue"
abbrev own_c_102 : String := "Lcom/example/tasdik/tasdik/core/cbor/CborValue$Type;"
theorem rmCmp (l : Launch) (Z : State) (a0 : Array Value) (hw : own_H a0 Z) (ws : List Jvm.Cond) (w0 wl wp mr : Addr) (hS : own_S Z w0 wl wp mr) (vx : Addr) (vy : Addr) (a : UInt64) (b : UInt64) (h0 : Heap) (n0 : Nat) (O0 : Old Z n0 h0) (E1 : Exa Z h0 vx own_c_101) (E2 : Exa Z h0 vy own_c_101) (T1 : Fld Z h0 vx own_c_101 "type" own_c_102 (.ref w0)) (T2 : Fld Z h0 vy own_c_101 "type" own_c_102 (.ref w0)) (B1 : Fld Z h0 vx own_c_101 "floatValue" "D" (.double a)) (B2 : Fld Z h0 vy own_c_101 "floatValue" "D" (.double b)) (na : FP.Core.val64 a ≠ .nan) (nb : FP.Core.val64 b ≠ .nan) :
    own_Met l own_y_99 prog_21_method_18_code 3 (some .int) ws ({ frames := 3, cells := 0, slots := 0, locals := 63 } : Room) Z h0 #[(.ref vx), (.ref vy)] (QrmCmp Z w0 wl wp mr vx vy a b h0 n0) := by
  refine own_body (plainFor_of_name own_pn_100) ?_
  intro p e s m below meth c s₁ hx hby hml hown hnm hret hlk hZ e0 X0
  have N0 := Fr.nil n0
  refine own_st (fun u_ k_ => castTop (own_ef_rmCmp m vx vy) k_) ?_
  show own_Go p e below _ (s₁.setTop (mkF m 0 #[.val (.ref vx), .val (.ref vy), .unset] []))
  refine own_st (fun u_ k_ => XS.aloadN X0.here hx rfl (hb hby own_d_prog_21_18_0) rfl rfl k_) ?_
  obtain ⟨T9, X9, e9, st9⟩ := getF X0 hx hZ hown (host := "") (Or.inl (own_w hw 31 rfl)) Via.refl e0 T1 (g := (mkF m 1 #[.val (.ref vx), .val (.ref vy), .unset] [(.ref vx)])) rfl rfl (hb hby own_d_prog_21_18_1)
  refine own_st (fun u_ k_ => st9 u_ k_) ?_
  show own_Go p e below _ (T9.setTop (mkF m 4 #[.val (.ref vx), .val (.ref vy), .unset] [(.ref w0)]))
  refine own_st (fun u_ k_ => XS.aloadN X9.here hx rfl (hb hby own_d_prog_21_18_4) rfl rfl k_) ?_
  obtain ⟨T10, X10, e10, st10⟩ := getF X9 hx hZ hown (host := "") (Or.inl (own_w hw 31 rfl)) Via.refl e9 T2 (g := (mkF m 5 #[.val (.ref vx), .val (.ref vy), .unset] [(.ref vy), (.ref w0)])) rfl rfl (hb hby own_d_prog_21_18_5)
  refine own_st (fun u_ k_ => st10 u_ k_) ?_
  show own_Go p e below _ (T10.setTop (mkF m 8 #[.val (.ref vx), .val (.ref vy), .unset] [(.ref w0), (.ref w0)]))
  have F24 := Exa.ext O0.2 hS.2.1
  obtain ⟨T23, v23, L23, X23, hQ23, st23⟩ := own_callU X10 hx hZ (y := own_y_74) (z := own_y_72) hown (own_w hw 64 rfl) (own_w hw 65 rfl) (own_w hw 66 rfl) (own_w hw 68 rfl) (own_w hw 67 rfl) (own_w hw 69 rfl) (own_w hw 70 rfl) own_lm_75 (rmU0 l Z a0 hw [] w0 wl wp mr hS  h0 n0 O0 ) e10 F24 own_pd_76 (argsL := [(.ref w0)]) (rest := []) rfl rfl (g := (mkF m 8 #[.val (.ref vx), .val (.ref vy), .unset] [(.ref w0), (.ref w0)])) rfl (by rw [hml]; rfl) rfl (hb hby own_d_prog_21_18_8) (W := 0) rfl (by decide) (by decide) (by decide) (by decide)
  obtain ⟨rfl, M23, e23⟩ := hQ23
  have N23 := Fr.app N0 M23
  refine own_st (fun u_ k_ => st23 u_ k_) ?_
  show own_Go p e below _ (T23.setTop (mkF m 11 #[.val (.ref vx), .val (.ref vy), .unset] [(.int (0 : Int32))]))
  refine own_st (fun u_ k_ => XS.istoreN X23.here hx rfl (hb hby own_d_prog_21_18_11) rfl (l' := #[.val (.ref vx), .val (.ref vy), .val (.int (0 : Int32))]) rfl k_) ?_
  refine own_st (fun u_ k_ => XS.iloadN X23.here hx rfl (hb hby own_d_prog_21_18_12) rfl k_) ?_
  show own_Go p e below _ (T23.setTop (mkF m 13 #[.val (.ref vx), .val (.ref vy), .val (.int (0 : Int32))] [(.int (0 : Int32))]))
  refine own_st (fun u_ k_ => XS.ifNo X23.here hx rfl (hb hby own_d_prog_21_18_13) rfl (XT.i0_ne_f (by decide)) k_) ?_
  refine own_st (fun u_ k_ => XS.aloadN X23.here hx rfl (hb hby own_d_prog_21_18_16) rfl rfl k_) ?_
  show own_Go p e below _ (T23.setTop (mkF m 17 #[.val (.ref vx), .val (.ref vy), .val (.int (0 : Int32))] [(.ref vx)]))
  obtain ⟨T25, X25, e25, st25⟩ := getF X23 hx hZ hown (host := "") (Or.inl (own_w hw 31 rfl)) Via.refl e23 T1 (g := (mkF m 17 #[.val (.ref vx), .val (.ref vy), .val (.int (0 : Int32))] [(.ref vx)])) rfl rfl (hb hby own_d_prog_21_18_17)
  refine own_st (fun u_ k_ => st25 u_ k_) ?_
  show own_Go p e below _ (T25.setTop (mkF m 20 #[.val (.ref vx), .val (.ref vy), .val (.int (0 : Int32))] [(.ref w0)]))
  obtain ⟨T30, v30, L30, X30, hQ30, st30⟩ := own_callU X25 hx hZ (y := own_y_87) (z := own_y_86) hown (own_w hw 79 rfl) (own_w hw 80 rfl) (own_w hw 81 rfl) (own_w hw 83 rfl) (own_w hw 82 rfl) (own_w hw 69 rfl) (own_w hw 84 rfl) own_lm_75 (rmU1 l Z a0 hw [] w0 wl wp mr hS  h0 n0 O0 ) e25 F24 own_pd_88 (argsL := []) (rest := []) rfl rfl (g := (mkF m 20 #[.val (.ref vx), .val (.ref vy), .val (.int (0 : Int32))] [(.ref w0)])) rfl (by rw [hml]; rfl) rfl (hb hby own_d_prog_21_18_20) (W := 0) rfl (by decide) (by decide) (by decide) (by decide)
  obtain ⟨rfl, M30, e30⟩ := hQ30
  have N30 := Fr.app N23 M30
  refine own_st (fun u_ k_ => st30 u_ k_) ?_
  show own_Go p e below _ (T30.setTop (mkF m 23 #[.val (.ref vx), .val (.ref vy), .val (.int (0 : Int32))] [(.int (7 : Int32))]))
  refine own_st (fun u_ k_ => XS.tswIn X30.here hx rfl (pc0 := 23) (pc' := 176) (o := 153) rfl (hb hby own_d_prog_21_18_23) rfl (by decide) (by decide) (by decide) (by decide) k_) ?_
  refine own_st (fun u_ k_ => XS.aloadN X30.here hx rfl (hb hby own_d_prog_21_18_176) rfl rfl k_) ?_
  show own_Go p e below _ (T30.setTop (mkF m 177 #[.val (.ref vx), .val (.ref vy), .val (.int (0 : Int32))] [(.ref vx)]))
  obtain ⟨T31, X31, e31, st31⟩ := getF X30 hx hZ hown (host := "") (Or.inl (own_w hw 35 rfl)) Via.refl e30 B1 (g := (mkF m 177 #[.val (.ref vx), .val (.ref vy), .val (.int (0 : Int32))] [(.ref vx)])) rfl rfl (hb hby own_d_prog_21_18_177)
  refine own_st (fun u_ k_ => st31 u_ k_) ?_
  show own_Go p e below _ (T31.setTop (mkF m 180 #[.val (.ref vx), .val (.ref vy), .val (.int (0 : Int32))] [(.double a)]))
  refine own_st (fun u_ k_ => XS.aloadN X31.here hx rfl (hb hby own_d_prog_21_18_180) rfl rfl k_) ?_
  obtain ⟨T32, X32, e32, st32⟩ := getF X31 hx hZ hown (host := "") (Or.inl (own_w hw 35 rfl)) Via.refl e31 B2 (g := (mkF m 181 #[.val (.ref vx), .val (.ref vy), .val (.int (0 : Int32))] [(.ref vy), (.double a)])) rfl rfl (hb hby own_d_prog_21_18_181)
  refine own_st (fun u_ k_ => st32 u_ k_) ?_
  show own_Go p e below _ (T32.setTop (mkF m 184 #[.val (.ref vx), .val (.ref vy), .val (.int (0 : Int32))] [(.double b), (.double a)]))
  obtain ⟨T33, v33, L33, X33, hQ33, st33⟩ := own_callS X32 hx hZ (y := own_y_51) hown (own_w hw 85 rfl) (own_w hw 86 rfl) (own_w hw 87 rfl) (own_w hw 88 rfl) own_lm_11 (rmDC l Z a0 hw [] w0 wl wp mr hS a b h0 n0 O0 na nb) e32 own_pd_95 (argsL := [(.double a), (.double b)]) (rest := []) rfl rfl (g := (mkF m 184 #[.val (.ref vx), .val (.ref vy), .val (.int (0 : Int32))] [(.double b), (.double a)])) rfl (by rw [hml]; rfl) rfl (hb hby own_d_prog_21_18_184) (W := 0) rfl (by decide) (by decide) (by decide) (by decide)
  obtain ⟨r_34, rfl, M33, e33, pq_35⟩ := hQ33
  have N33 := Fr.app N30 M33
  refine own_st (fun u_ k_ => st33 u_ k_) ?_
  show own_Go p e below _ (T33.setTop (mkF m 187 #[.val (.ref vx), .val (.ref vy), .val (.int (0 : Int32))] [(.int r_34)]))
  refine own_st (fun u_ k_ => XS.istoreN X33.here hx rfl (hb hby own_d_prog_21_18_187) rfl (l' := #[.val (.ref vx), .val (.ref vy), .val (.int r_34)]) rfl k_) ?_
  refine own_st (fun u_ k_ => XS.iloadN X33.here hx rfl (hb hby own_d_prog_21_18_188) rfl k_) ?_
  show own_Go p e below _ (T33.setTop (mkF m 189 #[.val (.ref vx), .val (.ref vy), .val (.int r_34)] [(.int r_34)]))
  exact own_retX X33 hx hlk hret rfl (Or.inl ⟨rfl, by simp, _, rfl⟩) (hb hby own_d_prog_21_18_189) (by decide) (by decide) (show QrmCmp Z w0 wl wp mr vx vy a b h0 n0 (some (.int r_34)) T33.heap _ from (by rw [e33]; exact ⟨r_34, rfl, N33, rfl, pq_35⟩))
theorem own_d_prog_21_16_0 : decode prog_21_method_16_code 0 = .ok (.aload_n 1, 1) := by decide +kernel
theorem own_d_prog_21_16_1 : decode prog_21_method_16_code 1 = .ok (.instanceof 8, 3) := by decide +kernel
theorem own_d_prog_21_16_4 : decode prog_21_method_16_code 4 = .ok (.ifCond .eq 20, 3) := by decide +kernel
theorem own_d_prog_21_16_7 : decode prog_21_method_16_code 7 = .ok (.aload_n 1, 1) := by decide +kernel
theorem own_d_prog_21_16_8 : decode prog_21_method_16_code 8 = .ok (.checkcast 8, 3) := by decide +kernel
theorem own_d_prog_21_16_11 : decode prog_21_method_16_code 11 = .ok (.astore_n 2, 1) := by decide +kernel
theorem own_d_prog_21_16_12 : decode prog_21_method_16_code 12 = .ok (.aload_n 0, 1) := by decide +kernel
theorem own_d_prog_21_16_13 : decode prog_21_method_16_code 13 = .ok (.aload_n 2, 1) := by decide +kernel
theorem own_d_prog_21_16_14 : decode prog_21_method_16_code 14 = .ok (.invokestatic 137, 3) := by decide +kernel
theorem own_lm_112 : ("com/example/tasdik/tasdik/core/cbor/CborValue" : String) ≠ "java/lang/invoke/MethodHandle" ∧ ("com/example/tasdik/tasdik/core/cbor/CborValue" : String) ≠ "java/lang/invoke/VarHandle" := by decide +kernel
theorem own_pd_113 : parseMethodDescriptor "(Lcom/example/tasdik/tasdik/core/cbor/CborValue;Lcom/example/tasdik/tasdik/core/cbor/CborValue;)I" = some ⟨[(.object "com/example/tasdik/tasdik/core/cbor/CborValue"), (.object "com/example/tasdik/tasdik/core/cbor/CborValue")], some .int⟩ := by decide +kernel
theorem own_d_prog_21_16_17 : decode prog_21_method_16_code 17 = .ok (.ifCond .ne 7, 3) := by decide +kernel
theorem own_d_prog_21_16_20 : decode prog_21_method_16_code 20 = .ok (.iconst 1, 1) := by decide +kernel
theorem own_d_prog_21_16_21 : decode prog_21_method_16_code 21 = .ok (.goto 4, 3) := by decide +kernel
theorem own_d_prog_21_16_25 : decode prog_21_method_16_code 25 = .ok (.ireturn, 1) := by decide +kernel
theorem own_d_prog_21_16_24 : decode prog_21_method_16_code 24 = .ok (.iconst 0, 1) := by decide +kernel
abbrev own_y_119 : MethodName := ⟨"com/example/tasdik/tasdik/core/cbor/CborValue", "equals", "(Ljava/lang/Object;)Z"⟩
theorem own_ef_rmEq (m : MethodId) (vx : Addr) (vy : Addr)  : entryFrame m #[(.ref vx), (.ref vy)] 3 = mkF m 0 #[.val (.ref vx), .val (.ref vy), .unset] [] := by first | (simp [entryFrame, mkF, argsToLocals, Value.category, maxLocals]; done) | rfl
def QrmEq (Z : State) (w0 wl wp mr : Addr) (vx : Addr) (vy : Addr) (a : UInt64) (b : UInt64) (h0 : Heap) (n0 : Nat) (v : Option Value) (h : Heap) (L : List Loc) : Prop := v = some (.int (own_eq a b)) ∧ Fr n0 L ∧ h = h0
set_option maxRecDepth 65536 in
set_option maxHeartbeats 40000000 in
theorem rmEq (l : Launch) (Z : State) (a0 : Array Value) (hw : own_H a0 Z) (ws : List Jvm.Cond) (w0 wl wp mr : Addr) (hS : own_S Z w0 wl wp mr) (vx : Addr) (vy : Addr) (a : UInt64) (b : UInt64) (h0 : Heap) (n0 : Nat) (O0 : Old Z n0 h0) (E1 : Exa Z h0 vx own_c_101) (E2 : Exa Z h0 vy own_c_101) (T1 : Fld Z h0 vx own_c_101 "type" own_c_102 (.ref w0)) (T2 : Fld Z h0 vy own_c_101 "type" own_c_102 (.ref w0)) (B1 : Fld Z h0 vx own_c_101 "floatValue" "D" (.double a)) (B2 : Fld Z h0 vy own_c_101 "floatValue" "D" (.double b)) (na : FP.Core.val64 a ≠ .nan) (nb : FP.Core.val64 b ≠ .nan) :
    own_Met l own_y_119 prog_21_method_16_code 3 (some .boolean) ws ({ frames := 4, cells := 0, slots := 0, locals := 77 } : Room) Z h0 #[(.ref vx), (.ref vy)] (QrmEq Z w0 wl wp mr vx vy a b h0 n0) := by
  refine own_body (plainFor_of_name own_pn_100) ?_
  intro p e s m below meth c s₁ hx hby hml hown hnm hret hlk hZ e0 X0
  have N0 := Fr.nil n0
  refine own_st (fun u_ k_ => castTop (own_ef_rmEq m vx vy) k_) ?_
  show own_Go p e below _ (s₁.setTop (mkF m 0 #[.val (.ref vx), .val (.ref vy), .unset] []))
  refine own_st (fun u_ k_ => XS.aloadN X0.here hx rfl (hb hby own_d_prog_21_16_0) rfl rfl k_) ?_
  obtain ⟨T36, X36, e36, st36⟩ := instY X0 hx hZ hown (own_w hw 9 rfl) e0 (Ins.self E2) (g := (mkF m 1 #[.val (.ref vx), .val (.ref vy), .unset] [(.ref vy)])) rfl rfl (hb hby own_d_prog_21_16_1)
  refine own_st (fun u_ k_ => st36 u_ k_) ?_
  show own_Go p e below _ (T36.setTop (mkF m 4 #[.val (.ref vx), .val (.ref vy), .unset] [(.int (1 : Int32))]))
  refine own_st (fun u_ k_ => XS.ifNo X36.here hx rfl (hb hby own_d_prog_21_16_4) rfl (XT.i0_eq_f (by decide)) k_) ?_
  refine own_st (fun u_ k_ => XS.aloadN X36.here hx rfl (hb hby own_d_prog_21_16_7) rfl rfl k_) ?_
  show own_Go p e below _ (T36.setTop (mkF m 8 #[.val (.ref vx), .val (.ref vy), .unset] [(.ref vy)]))
  obtain ⟨T37, X37, e37, st37⟩ := castY X36 hx hZ hown (own_w hw 9 rfl) e36 (Ins.self E2) (g := (mkF m 8 #[.val (.ref vx), .val (.ref vy), .unset] [(.ref vy)])) rfl rfl (hb hby own_d_prog_21_16_8)
  refine own_st (fun u_ k_ => st37 u_ k_) ?_
  show own_Go p e below _ (T37.setTop (mkF m 11 #[.val (.ref vx), .val (.ref vy), .unset] [(.ref vy)]))
  refine own_st (fun u_ k_ => XS.astoreN X37.here hx rfl (hb hby own_d_prog_21_16_11) rfl rfl (l' := #[.val (.ref vx), .val (.ref vy), .val (.ref vy)]) rfl k_) ?_
  refine own_st (fun u_ k_ => XS.aloadN X37.here hx rfl (hb hby own_d_prog_21_16_12) rfl rfl k_) ?_
  show own_Go p e below _ (T37.setTop (mkF m 13 #[.val (.ref vx), .val (.ref vy), .val (.ref vy)] [(.ref vx)]))
  refine own_st (fun u_ k_ => XS.aloadN X37.here hx rfl (hb hby own_d_prog_21_16_13) rfl rfl k_) ?_
  obtain ⟨T38, v38, L38, X38, hQ38, st38⟩ := own_callS X37 hx hZ (y := own_y_99) hown (own_w hw 61 rfl) (own_w hw 62 rfl) (own_w hw 7 rfl) (own_w hw 63 rfl) own_lm_112 (rmCmp l Z a0 hw [] w0 wl wp mr hS vx vy a b h0 n0 O0 E1 E2 T1 T2 B1 B2 na nb) e37 own_pd_113 (argsL := [(.ref vx), (.ref vy)]) (rest := []) rfl rfl (g := (mkF m 14 #[.val (.ref vx), .val (.ref vy), .val (.ref vy)] [(.ref vy), (.ref vx)])) rfl (by rw [hml]; rfl) rfl (hb hby own_d_prog_21_16_14) (W := 0) rfl (by decide) (by decide) (by decide) (by decide)
  obtain ⟨r_39, rfl, M38, e38, pq_40⟩ := hQ38
  have N38 := Fr.app N0 M38
  refine own_st (fun u_ k_ => st38 u_ k_) ?_
  show own_Go p e below _ (T38.setTop (mkF m 17 #[.val (.ref vx), .val (.ref vy), .val (.ref vy)] [(.int r_39)]))
  by_cases hc41 : r_39 = (0 : Int32)
  · refine own_st (fun u_ k_ => XS.ifNo X38.here hx rfl (hb hby own_d_prog_21_16_17) rfl (XT.i0_ne_f hc41) k_) ?_
    refine own_st (fun u_ k_ => XS.iconst X38.here hx rfl (hb hby own_d_prog_21_16_20) k_) ?_
    show own_Go p e below _ (T38.setTop (mkF m 21 #[.val (.ref vx), .val (.ref vy), .val (.ref vy)] [(.int (1 : Int32))]))
    refine own_st (fun u_ k_ => XS.goto X38.here hx rfl (pc0 := 21) (pc' := 25) rfl (hb hby own_d_prog_21_16_21) (by decide) (by decide) k_) ?_
    exact own_retX X38 hx hlk hret rfl (Or.inl ⟨rfl, by simp, _, rfl⟩) (hb hby own_d_prog_21_16_25) (by decide) (by decide) (show QrmEq Z w0 wl wp mr vx vy a b h0 n0 (some (.int (1 : Int32))) T38.heap _ from (by rw [e38]; exact ⟨(own_e1 (pq_40.mp hc41)), N38, rfl⟩))
  · refine own_st (fun u_ k_ => XS.ifYes X38.here hx rfl (pc0 := 17) (pc' := 24) rfl (hb hby own_d_prog_21_16_17) rfl (XT.i0_ne_t hc41) (by decide) (by decide) k_) ?_
    refine own_st (fun u_ k_ => XS.iconst X38.here hx rfl (hb hby own_d_prog_21_16_24) k_) ?_
    show own_Go p e below _ (T38.setTop (mkF m 25 #[.val (.ref vx), .val (.ref vy), .val (.ref vy)] [(.int (0 : Int32))]))
    exact own_retX X38 hx hlk hret rfl (Or.inl ⟨rfl, by simp, _, rfl⟩) (hb hby own_d_prog_21_16_25) (by decide) (by decide) (show QrmEq Z w0 wl wp mr vx vy a b h0 n0 (some (.int (0 : Int32))) T38.heap _ from (by rw [e38]; exact ⟨(own_e0 (fun q => hc41 (pq_40.mpr q))), N38, rfl⟩))
theorem own_d_method_3_0 : decode method_3_code 0 = .ok (.iload_n 0, 1) := by decide +kernel
theorem own_d_method_3_1 : decode method_3_code 1 = .ok (.i2d, 1) := by decide +kernel
theorem own_d_method_3_2 : decode method_3_code 2 = .ok (.dstore_n 3, 1) := by decide +kernel
theorem own_d_method_3_3 : decode method_3_code 3 = .ok (.iload_n 1, 1) := by decide +kernel
theorem own_d_method_3_4 : decode method_3_code 4 = .ok (.ifCond .eq 6, 3) := by decide +kernel
theorem own_d_method_3_10 : decode method_3_code 10 = .ok (.iload_n 2, 1) := by decide +kernel
theorem own_d_method_3_11 : decode method_3_code 11 = .ok (.ifCond .eq 9, 3) := by decide +kernel
theorem own_d_method_3_20 : decode method_3_code 20 = .ok (.dload_n 3, 1) := by decide +kernel
theorem own_d_method_3_21 : decode method_3_code 21 = .ok (.dreturn, 1) := by decide +kernel
theorem own_d_method_3_14 : decode method_3_code 14 = .ok (.dload_n 3, 1) := by decide +kernel
theorem own_d_method_3_15 : decode method_3_code 15 = .ok (.ldc2_w 37, 3) := by decide +kernel
theorem own_d_method_3_18 : decode method_3_code 18 = .ok (.ddiv, 1) := by decide +kernel
theorem own_d_method_3_19 : decode method_3_code 19 = .ok (.dstore_n 3, 1) := by decide +kernel
theorem own_d_method_3_7 : decode method_3_code 7 = .ok (.dload_n 3, 1) := by decide +kernel
theorem own_d_method_3_8 : decode method_3_code 8 = .ok (.dneg, 1) := by decide +kernel
theorem own_d_method_3_9 : decode method_3_code 9 = .ok (.dstore_n 3, 1) := by decide +kernel
abbrev own_y_136 : MethodName := ⟨"com/example/tasdik/tasdik/core/cbor/CborValueFloatingPinLaw", "make", "(IZZ)D"⟩
theorem own_pn_137 : plainName "com/example/tasdik/tasdik/core/cbor/CborValueFloatingPinLaw" = true := by first | (simp [plainName, overriddenIn]; done) | decide +kernel
theorem own_ef_rmMk (m : MethodId) (vv : Int32) (zn : Int32) (zq : Int32)  : entryFrame m #[(.int vv), (.int zn), (.int zq)] 5 = mkF m 0 #[.val (.int vv), .val (.int zn), .val (.int zq), .unset, .unset] [] := by first | (simp [entryFrame, mkF, argsToLocals, Value.category, maxLocals]; done) | rfl
def QrmMk (Z : State) (w0 wl wp mr : Addr) (vv : Int32) (zn : Int32) (zq : Int32) (h0 : Heap) (n0 : Nat) (v : Option Value) (h : Heap) (L : List Loc) : Prop := v = some (.double (own_mk vv zn zq)) ∧ Fr n0 L ∧ h = h0
set_option maxRecDepth 65536 in
set_option maxHeartbeats 40000000 in
theorem rmMk (l : Launch) (Z : State) (a0 : Array Value) (hw : own_H a0 Z) (ws : List Jvm.Cond) (w0 wl wp mr : Addr) (hS : own_S Z w0 wl wp mr) (vv : Int32) (zn : Int32) (zq : Int32) (h0 : Heap) (n0 : Nat) (O0 : Old Z n0 h0)  :
    own_Met l own_y_136 method_3_code 5 (some .double) ws ({ frames := 0, cells := 0, slots := 0, locals := 0 } : Room) Z h0 #[(.int vv), (.int zn), (.int zq)] (QrmMk Z w0 wl wp mr vv zn zq h0 n0) := by
  refine own_body (plainFor_of_name own_pn_137) ?_
  intro p e s m below meth c s₁ hx hby hml hown hnm hret hlk hZ e0 X0
  have N0 := Fr.nil n0
  refine own_st (fun u_ k_ => castTop (own_ef_rmMk m vv zn zq) k_) ?_
  show own_Go p e below _ (s₁.setTop (mkF m 0 #[.val (.int vv), .val (.int zn), .val (.int zq), .unset, .unset] []))
  refine own_st (fun u_ k_ => XS.iloadN X0.here hx rfl (hb hby own_d_method_3_0) rfl k_) ?_
  refine own_st (fun u_ k_ => XS.i2dS X0.here hx rfl (hb hby own_d_method_3_1) rfl rfl k_) ?_
  show own_Go p e below _ (s₁.setTop (mkF m 2 #[.val (.int vv), .val (.int zn), .val (.int zq), .unset, .unset] [(.double (FP.i2d vv))]))
  refine own_st (fun u_ k_ => XS.dstoreN X0.here hx rfl (hb hby own_d_method_3_2) rfl (l' := #[.val (.int vv), .val (.int zn), .val (.int zq), .val (.double (FP.i2d vv)), .second]) rfl k_) ?_
  refine own_st (fun u_ k_ => XS.iloadN X0.here hx rfl (hb hby own_d_method_3_3) rfl k_) ?_
  show own_Go p e below _ (s₁.setTop (mkF m 4 #[.val (.int vv), .val (.int zn), .val (.int zq), .val (.double (FP.i2d vv)), .second] [(.int zn)]))
  by_cases hc42 : zn = (0 : Int32)
  · refine own_st (fun u_ k_ => XS.ifYes X0.here hx rfl (pc0 := 4) (pc' := 10) rfl (hb hby own_d_method_3_4) rfl (XT.i0_eq_t hc42) (by decide) (by decide) k_) ?_
    refine own_st (fun u_ k_ => XS.iloadN X0.here hx rfl (hb hby own_d_method_3_10) rfl k_) ?_
    show own_Go p e below _ (s₁.setTop (mkF m 11 #[.val (.int vv), .val (.int zn), .val (.int zq), .val (.double (FP.i2d vv)), .second] [(.int zq)]))
    by_cases hc43 : zq = (0 : Int32)
    · refine own_st (fun u_ k_ => XS.ifYes X0.here hx rfl (pc0 := 11) (pc' := 20) rfl (hb hby own_d_method_3_11) rfl (XT.i0_eq_t hc43) (by decide) (by decide) k_) ?_
      refine own_st (fun u_ k_ => XS.dloadN X0.here hx rfl (hb hby own_d_method_3_20) rfl k_) ?_
      show own_Go p e below _ (s₁.setTop (mkF m 21 #[.val (.int vv), .val (.int zn), .val (.int zq), .val (.double (FP.i2d vv)), .second] [(.double (FP.i2d vv))]))
      exact own_retX X0 hx hlk hret rfl (Or.inr (Or.inr (Or.inl ⟨rfl, rfl, _, rfl⟩))) (hb hby own_d_method_3_21) (by decide) (by decide) (show QrmMk Z w0 wl wp mr vv zn zq h0 n0 (some (.double (FP.i2d vv))) s₁.heap _ from (by rw [e0]; exact ⟨(by simp only [own_mk, hc42, hc43, if_true, if_false]), N0, rfl⟩))
    · refine own_st (fun u_ k_ => XS.ifNo X0.here hx rfl (hb hby own_d_method_3_11) rfl (XT.i0_eq_f hc43) k_) ?_
      refine own_st (fun u_ k_ => XS.dloadN X0.here hx rfl (hb hby own_d_method_3_14) rfl k_) ?_
      show own_Go p e below _ (s₁.setTop (mkF m 15 #[.val (.int vv), .val (.int zn), .val (.int zq), .val (.double (FP.i2d vv)), .second] [(.double (FP.i2d vv))]))
      refine own_st (X0.ldc2DoubleC hx hown (mvT hZ (own_w hw 4 rfl)) (g := (mkF m 15 #[.val (.int vv), .val (.int zn), .val (.int zq), .val (.double (FP.i2d vv)), .second] [(.double (FP.i2d vv))])) rfl (hb hby own_d_method_3_15)) ?_
      show own_Go p e below _ (s₁.setTop (mkF m 18 #[.val (.int vv), .val (.int zn), .val (.int zq), .val (.double (FP.i2d vv)), .second] [(.double (4616189618054758400 : UInt64)), (.double (FP.i2d vv))]))
      refine own_st (fun u_ k_ => XS.ddivS X0.here hx rfl (hb hby own_d_method_3_18) rfl (own_nn4 vv (Or.inl rfl)) rfl k_) ?_
      refine own_st (fun u_ k_ => XS.dstoreN X0.here hx rfl (hb hby own_d_method_3_19) rfl (l' := #[.val (.int vv), .val (.int zn), .val (.int zq), .val (.double (FP.ddiv (FP.i2d vv) (4616189618054758400 : UInt64))), .second]) rfl k_) ?_
      show own_Go p e below _ (s₁.setTop (mkF m 20 #[.val (.int vv), .val (.int zn), .val (.int zq), .val (.double (FP.ddiv (FP.i2d vv) (4616189618054758400 : UInt64))), .second] []))
      refine own_st (fun u_ k_ => XS.dloadN X0.here hx rfl (hb hby own_d_method_3_20) rfl k_) ?_
      exact own_retX X0 hx hlk hret rfl (Or.inr (Or.inr (Or.inl ⟨rfl, rfl, _, rfl⟩))) (hb hby own_d_method_3_21) (by decide) (by decide) (show QrmMk Z w0 wl wp mr vv zn zq h0 n0 (some (.double (FP.ddiv (FP.i2d vv) (4616189618054758400 : UInt64)))) s₁.heap _ from (by rw [e0]; exact ⟨(by simp only [own_mk, hc42, hc43, if_true, if_false]), N0, rfl⟩))
  · refine own_st (fun u_ k_ => XS.ifNo X0.here hx rfl (hb hby own_d_method_3_4) rfl (XT.i0_eq_f hc42) k_) ?_
    refine own_st (fun u_ k_ => XS.dloadN X0.here hx rfl (hb hby own_d_method_3_7) rfl k_) ?_
    show own_Go p e below _ (s₁.setTop (mkF m 8 #[.val (.int vv), .val (.int zn), .val (.int zq), .val (.double (FP.i2d vv)), .second] [(.double (FP.i2d vv))]))
    refine own_st (fun u_ k_ => XS.dnegS X0.here hx rfl (hb hby own_d_method_3_8) rfl rfl k_) ?_
    refine own_st (fun u_ k_ => XS.dstoreN X0.here hx rfl (hb hby own_d_method_3_9) rfl (l' := #[.val (.int vv), .val (.int zn), .val (.int zq), .val (.double (FP.dneg (FP.i2d vv))), .second]) rfl k_) ?_
    show own_Go p e below _ (s₁.setTop (mkF m 10 #[.val (.int vv), .val (.int zn), .val (.int zq), .val (.double (FP.dneg (FP.i2d vv))), .second] []))
    refine own_st (fun u_ k_ => XS.iloadN X0.here hx rfl (hb hby own_d_method_3_10) rfl k_) ?_
    by_cases hc44 : zq = (0 : Int32)
    · refine own_st (fun u_ k_ => XS.ifYes X0.here hx rfl (pc0 := 11) (pc' := 20) rfl (hb hby own_d_method_3_11) rfl (XT.i0_eq_t hc44) (by decide) (by decide) k_) ?_
      show own_Go p e below _ (s₁.setTop (mkF m 20 #[.val (.int vv), .val (.int zn), .val (.int zq), .val (.double (FP.dneg (FP.i2d vv))), .second] []))
      refine own_st (fun u_ k_ => XS.dloadN X0.here hx rfl (hb hby own_d_method_3_20) rfl k_) ?_
      exact own_retX X0 hx hlk hret rfl (Or.inr (Or.inr (Or.inl ⟨rfl, rfl, _, rfl⟩))) (hb hby own_d_method_3_21) (by decide) (by decide) (show QrmMk Z w0 wl wp mr vv zn zq h0 n0 (some (.double (FP.dneg (FP.i2d vv)))) s₁.heap _ from (by rw [e0]; exact ⟨(by simp only [own_mk, hc42, hc44, if_true, if_false]), N0, rfl⟩))
    · refine own_st (fun u_ k_ => XS.ifNo X0.here hx rfl (hb hby own_d_method_3_11) rfl (XT.i0_eq_f hc44) k_) ?_
      show own_Go p e below _ (s₁.setTop (mkF m 14 #[.val (.int vv), .val (.int zn), .val (.int zq), .val (.double (FP.dneg (FP.i2d vv))), .second] []))
      refine own_st (fun u_ k_ => XS.dloadN X0.here hx rfl (hb hby own_d_method_3_14) rfl k_) ?_
      refine own_st (X0.ldc2DoubleC hx hown (mvT hZ (own_w hw 4 rfl)) (g := (mkF m 15 #[.val (.int vv), .val (.int zn), .val (.int zq), .val (.double (FP.dneg (FP.i2d vv))), .second] [(.double (FP.dneg (FP.i2d vv)))])) rfl (hb hby own_d_method_3_15)) ?_
      show own_Go p e below _ (s₁.setTop (mkF m 18 #[.val (.int vv), .val (.int zn), .val (.int zq), .val (.double (FP.dneg (FP.i2d vv))), .second] [(.double (4616189618054758400 : UInt64)), (.double (FP.dneg (FP.i2d vv)))]))
      refine own_st (fun u_ k_ => XS.ddivS X0.here hx rfl (hb hby own_d_method_3_18) rfl (own_nn4 vv (Or.inr rfl)) rfl k_) ?_
      show own_Go p e below _ (s₁.setTop (mkF m 19 #[.val (.int vv), .val (.int zn), .val (.int zq), .val (.double (FP.dneg (FP.i2d vv))), .second] [(.double (FP.ddiv (FP.dneg (FP.i2d vv)) (4616189618054758400 : UInt64)))]))
      refine own_st (fun u_ k_ => XS.dstoreN X0.here hx rfl (hb hby own_d_method_3_19) rfl (l' := #[.val (.int vv), .val (.int zn), .val (.int zq), .val (.double (FP.ddiv (FP.dneg (FP.i2d vv)) (4616189618054758400 : UInt64))), .second]) rfl k_) ?_
      refine own_st (fun u_ k_ => XS.dloadN X0.here hx rfl (hb hby own_d_method_3_20) rfl k_) ?_
      show own_Go p e below _ (s₁.setTop (mkF m 21 #[.val (.int vv), .val (.int zn), .val (.int zq), .val (.double (FP.ddiv (FP.dneg (FP.i2d vv)) (4616189618054758400 : UInt64))), .second] [(.double (FP.ddiv (FP.dneg (FP.i2d vv)) (4616189618054758400 : UInt64)))]))
      exact own_retX X0 hx hlk hret rfl (Or.inr (Or.inr (Or.inl ⟨rfl, rfl, _, rfl⟩))) (hb hby own_d_method_3_21) (by decide) (by decide) (show QrmMk Z w0 wl wp mr vv zn zq h0 n0 (some (.double (FP.ddiv (FP.dneg (FP.i2d vv)) (4616189618054758400 : UInt64)))) s₁.heap _ from (by rw [e0]; exact ⟨(by simp only [own_mk, hc42, hc44, if_true, if_false]), N0, rfl⟩))
theorem own_d_method_4_0 : decode method_4_code 0 = .ok (.iload_n 0, 1) := by decide +kernel
theorem own_d_method_4_1 : decode method_4_code 1 = .ok (.i2l, 1) := by decide +kernel
theorem own_d_method_4_2 : decode method_4_code 2 = .ok (.lstore_n 3, 1) := by decide +kernel
theorem own_d_method_4_3 : decode method_4_code 3 = .ok (.iload_n 1, 1) := by decide +kernel
theorem own_d_method_4_4 : decode method_4_code 4 = .ok (.ifCond .eq 6, 3) := by decide +kernel
theorem own_d_method_4_10 : decode method_4_code 10 = .ok (.iload_n 2, 1) := by decide +kernel
theorem own_d_method_4_11 : decode method_4_code 11 = .ok (.ifCond .eq 7, 3) := by decide +kernel
theorem own_d_method_4_18 : decode method_4_code 18 = .ok (.lload_n 3, 1) := by decide +kernel
theorem own_d_method_4_19 : decode method_4_code 19 = .ok (.ldc2_w 39, 3) := by decide +kernel
theorem own_d_method_4_22 : decode method_4_code 22 = .ok (.lmul, 1) := by decide +kernel
theorem own_d_method_4_23 : decode method_4_code 23 = .ok (.lreturn, 1) := by decide +kernel
theorem own_d_method_4_14 : decode method_4_code 14 = .ok (.lload_n 3, 1) := by decide +kernel
theorem own_d_method_4_15 : decode method_4_code 15 = .ok (.goto 8, 3) := by decide +kernel
theorem own_d_method_4_7 : decode method_4_code 7 = .ok (.lload_n 3, 1) := by decide +kernel
theorem own_d_method_4_8 : decode method_4_code 8 = .ok (.lneg, 1) := by decide +kernel
theorem own_d_method_4_9 : decode method_4_code 9 = .ok (.lstore_n 3, 1) := by decide +kernel
abbrev own_y_154 : MethodName := ⟨"com/example/tasdik/tasdik/core/cbor/CborValueFloatingPinLaw", "scaled", "(IZZ)J"⟩
theorem own_ef_rmSc (m : MethodId) (vv : Int32) (zn : Int32) (zq : Int32)  : entryFrame m #[(.int vv), (.int zn), (.int zq)] 5 = mkF m 0 #[.val (.int vv), .val (.int zn), .val (.int zq), .unset, .unset] [] := by first | (simp [entryFrame, mkF, argsToLocals, Value.category, maxLocals]; done) | rfl
def QrmSc (Z : State) (w0 wl wp mr : Addr) (vv : Int32) (zn : Int32) (zq : Int32) (h0 : Heap) (n0 : Nat) (v : Option Value) (h : Heap) (L : List Loc) : Prop := v = some (.long (own_sc vv zn zq)) ∧ Fr n0 L ∧ h = h0
set_option maxRecDepth 65536 in
set_option maxHeartbeats 40000000 in
theorem rmSc (l : Launch) (Z : State) (a0 : Array Value) (hw : own_H a0 Z) (ws : List Jvm.Cond) (w0 wl wp mr : Addr) (hS : own_S Z w0 wl wp mr) (vv : Int32) (zn : Int32) (zq : Int32) (h0 : Heap) (n0 : Nat) (O0 : Old Z n0 h0)  :
    own_Met l own_y_154 method_4_code 5 (some .long) ws ({ frames := 0, cells := 0, slots := 0, locals := 0 } : Room) Z h0 #[(.int vv), (.int zn), (.int zq)] (QrmSc Z w0 wl wp mr vv zn zq h0 n0) := by
  refine own_body (plainFor_of_name own_pn_137) ?_
  intro p e s m below meth c s₁ hx hby hml hown hnm hret hlk hZ e0 X0
  have N0 := Fr.nil n0
  refine own_st (fun u_ k_ => castTop (own_ef_rmSc m vv zn zq) k_) ?_
  show own_Go p e below _ (s₁.setTop (mkF m 0 #[.val (.int vv), .val (.int zn), .val (.int zq), .unset, .unset] []))
  refine own_st (fun u_ k_ => XS.iloadN X0.here hx rfl (hb hby own_d_method_4_0) rfl k_) ?_
  refine own_st (fun u_ k_ => XS.i2l X0.here hx rfl (hb hby own_d_method_4_1) rfl k_) ?_
  show own_Go p e below _ (s₁.setTop (mkF m 2 #[.val (.int vv), .val (.int zn), .val (.int zq), .unset, .unset] [(.long (vv.toInt64))]))
  refine own_st (fun u_ k_ => XS.lstoreN X0.here hx rfl (hb hby own_d_method_4_2) rfl (l' := #[.val (.int vv), .val (.int zn), .val (.int zq), .val (.long (vv.toInt64)), .second]) rfl k_) ?_
  refine own_st (fun u_ k_ => XS.iloadN X0.here hx rfl (hb hby own_d_method_4_3) rfl k_) ?_
  show own_Go p e below _ (s₁.setTop (mkF m 4 #[.val (.int vv), .val (.int zn), .val (.int zq), .val (.long (vv.toInt64)), .second] [(.int zn)]))
  by_cases hc45 : zn = (0 : Int32)
  · refine own_st (fun u_ k_ => XS.ifYes X0.here hx rfl (pc0 := 4) (pc' := 10) rfl (hb hby own_d_method_4_4) rfl (XT.i0_eq_t hc45) (by decide) (by decide) k_) ?_
    refine own_st (fun u_ k_ => XS.iloadN X0.here hx rfl (hb hby own_d_method_4_10) rfl k_) ?_
    show own_Go p e below _ (s₁.setTop (mkF m 11 #[.val (.int vv), .val (.int zn), .val (.int zq), .val (.long (vv.toInt64)), .second] [(.int zq)]))
    by_cases hc46 : zq = (0 : Int32)
    · refine own_st (fun u_ k_ => XS.ifYes X0.here hx rfl (pc0 := 11) (pc' := 18) rfl (hb hby own_d_method_4_11) rfl (XT.i0_eq_t hc46) (by decide) (by decide) k_) ?_
      refine own_st (fun u_ k_ => XS.lloadN X0.here hx rfl (hb hby own_d_method_4_18) rfl k_) ?_
      show own_Go p e below _ (s₁.setTop (mkF m 19 #[.val (.int vv), .val (.int zn), .val (.int zq), .val (.long (vv.toInt64)), .second] [(.long (vv.toInt64))]))
      refine own_st (X0.ldc2Long hx hown (mvT hZ (own_w hw 48 rfl)) (g := (mkF m 19 #[.val (.int vv), .val (.int zn), .val (.int zq), .val (.long (vv.toInt64)), .second] [(.long (vv.toInt64))])) rfl (hb hby own_d_method_4_19)) ?_
      show own_Go p e below _ (s₁.setTop (mkF m 22 #[.val (.int vv), .val (.int zn), .val (.int zq), .val (.long (vv.toInt64)), .second] [(.long (4 : Int64)), (.long (vv.toInt64))]))
      refine own_st (fun u_ k_ => XS.lmul X0.here hx rfl (hb hby own_d_method_4_22) rfl k_) ?_
      exact own_retX X0 hx hlk hret rfl (Or.inr (Or.inl ⟨rfl, rfl, _, rfl⟩)) (hb hby own_d_method_4_23) (by decide) (by decide) (show QrmSc Z w0 wl wp mr vv zn zq h0 n0 (some (.long ((vv.toInt64) * (4 : Int64)))) s₁.heap _ from (by rw [e0]; exact ⟨(by simp only [own_sc, hc45, hc46, if_true, if_false]), N0, rfl⟩))
    · refine own_st (fun u_ k_ => XS.ifNo X0.here hx rfl (hb hby own_d_method_4_11) rfl (XT.i0_eq_f hc46) k_) ?_
      refine own_st (fun u_ k_ => XS.lloadN X0.here hx rfl (hb hby own_d_method_4_14) rfl k_) ?_
      show own_Go p e below _ (s₁.setTop (mkF m 15 #[.val (.int vv), .val (.int zn), .val (.int zq), .val (.long (vv.toInt64)), .second] [(.long (vv.toInt64))]))
      refine own_st (fun u_ k_ => XS.goto X0.here hx rfl (pc0 := 15) (pc' := 23) rfl (hb hby own_d_method_4_15) (by decide) (by decide) k_) ?_
      exact own_retX X0 hx hlk hret rfl (Or.inr (Or.inl ⟨rfl, rfl, _, rfl⟩)) (hb hby own_d_method_4_23) (by decide) (by decide) (show QrmSc Z w0 wl wp mr vv zn zq h0 n0 (some (.long (vv.toInt64))) s₁.heap _ from (by rw [e0]; exact ⟨(by simp only [own_sc, hc45, hc46, if_true, if_false]), N0, rfl⟩))
  · refine own_st (fun u_ k_ => XS.ifNo X0.here hx rfl (hb hby own_d_method_4_4) rfl (XT.i0_eq_f hc45) k_) ?_
    refine own_st (fun u_ k_ => XS.lloadN X0.here hx rfl (hb hby own_d_method_4_7) rfl k_) ?_
    show own_Go p e below _ (s₁.setTop (mkF m 8 #[.val (.int vv), .val (.int zn), .val (.int zq), .val (.long (vv.toInt64)), .second] [(.long (vv.toInt64))]))
    refine own_st (fun u_ k_ => XS.lneg X0.here hx rfl (hb hby own_d_method_4_8) rfl k_) ?_
    refine own_st (fun u_ k_ => XS.lstoreN X0.here hx rfl (hb hby own_d_method_4_9) rfl (l' := #[.val (.int vv), .val (.int zn), .val (.int zq), .val (.long (-(vv.toInt64))), .second]) rfl k_) ?_
    show own_Go p e below _ (s₁.setTop (mkF m 10 #[.val (.int vv), .val (.int zn), .val (.int zq), .val (.long (-(vv.toInt64))), .second] []))
    refine own_st (fun u_ k_ => XS.iloadN X0.here hx rfl (hb hby own_d_method_4_10) rfl k_) ?_
    by_cases hc47 : zq = (0 : Int32)
    · refine own_st (fun u_ k_ => XS.ifYes X0.here hx rfl (pc0 := 11) (pc' := 18) rfl (hb hby own_d_method_4_11) rfl (XT.i0_eq_t hc47) (by decide) (by decide) k_) ?_
      show own_Go p e below _ (s₁.setTop (mkF m 18 #[.val (.int vv), .val (.int zn), .val (.int zq), .val (.long (-(vv.toInt64))), .second] []))
      refine own_st (fun u_ k_ => XS.lloadN X0.here hx rfl (hb hby own_d_method_4_18) rfl k_) ?_
      refine own_st (X0.ldc2Long hx hown (mvT hZ (own_w hw 48 rfl)) (g := (mkF m 19 #[.val (.int vv), .val (.int zn), .val (.int zq), .val (.long (-(vv.toInt64))), .second] [(.long (-(vv.toInt64)))])) rfl (hb hby own_d_method_4_19)) ?_
      show own_Go p e below _ (s₁.setTop (mkF m 22 #[.val (.int vv), .val (.int zn), .val (.int zq), .val (.long (-(vv.toInt64))), .second] [(.long (4 : Int64)), (.long (-(vv.toInt64)))]))
      refine own_st (fun u_ k_ => XS.lmul X0.here hx rfl (hb hby own_d_method_4_22) rfl k_) ?_
      show own_Go p e below _ (s₁.setTop (mkF m 23 #[.val (.int vv), .val (.int zn), .val (.int zq), .val (.long (-(vv.toInt64))), .second] [(.long ((-(vv.toInt64)) * (4 : Int64)))]))
      exact own_retX X0 hx hlk hret rfl (Or.inr (Or.inl ⟨rfl, rfl, _, rfl⟩)) (hb hby own_d_method_4_23) (by decide) (by decide) (show QrmSc Z w0 wl wp mr vv zn zq h0 n0 (some (.long ((-(vv.toInt64)) * (4 : Int64)))) s₁.heap _ from (by rw [e0]; exact ⟨(by simp only [own_sc, hc45, hc47, if_true, if_false]), N0, rfl⟩))
    · refine own_st (fun u_ k_ => XS.ifNo X0.here hx rfl (hb hby own_d_method_4_11) rfl (XT.i0_eq_f hc47) k_) ?_
      show own_Go p e below _ (s₁.setTop (mkF m 14 #[.val (.int vv), .val (.int zn), .val (.int zq), .val (.long (-(vv.toInt64))), .second] []))
      refine own_st (fun u_ k_ => XS.lloadN X0.here hx rfl (hb hby own_d_method_4_14) rfl k_) ?_
      refine own_st (fun u_ k_ => XS.goto X0.here hx rfl (pc0 := 15) (pc' := 23) rfl (hb hby own_d_method_4_15) (by decide) (by decide) k_) ?_
      show own_Go p e below _ (s₁.setTop (mkF m 23 #[.val (.int vv), .val (.int zn), .val (.int zq), .val (.long (-(vv.toInt64))), .second] [(.long (-(vv.toInt64)))]))
      exact own_retX X0 hx hlk hret rfl (Or.inr (Or.inl ⟨rfl, rfl, _, rfl⟩)) (hb hby own_d_method_4_23) (by decide) (by decide) (show QrmSc Z w0 wl wp mr vv zn zq h0 n0 (some (.long (-(vv.toInt64)))) s₁.heap _ from (by rw [e0]; exact ⟨(by simp only [own_sc, hc45, hc47, if_true, if_false]), N0, rfl⟩))
theorem own_lm_155 : ("com/example/tasdik/tasdik/core/cbor/CborValueFloatingPinLaw" : String) ≠ "java/lang/invoke/MethodHandle" ∧ ("com/example/tasdik/tasdik/core/cbor/CborValueFloatingPinLaw" : String) ≠ "java/lang/invoke/VarHandle" := by decide +kernel
theorem own_pd_156 : parseMethodDescriptor "(IZZ)D" = some ⟨[.int, .boolean, .boolean], some .double⟩ := by decide +kernel
theorem own_d_prog_21_10_0 : decode prog_21_method_10_code 0 = .ok (.new 8, 3) := by decide +kernel
theorem own_lm_158 : parseFieldDescriptor "Lcom/example/tasdik/tasdik/core/cbor/CborValue$Type;" = some (.object "com/example/tasdik/tasdik/core/cbor/CborValue$Type") := by decide +kernel
abbrev own_c_159 : String := "Ljava/math/BigInteger;"
theorem own_lm_160 : parseFieldDescriptor "Ljava/math/BigInteger;" = some (.object "java/math/BigInteger") := by decide +kernel
theorem own_lm_161 : parseFieldDescriptor "D" = some .double := by decide +kernel
theorem own_lm_162 : parseFieldDescriptor "[B" = some (.array .byte) := by decide +kernel
theorem own_lm_163 : parseFieldDescriptor "Ljava/lang/String;" = some (.object "java/lang/String") := by decide +kernel
theorem own_lm_164 : parseFieldDescriptor "Ljava/util/List;" = some (.object "java/util/List") := by decide +kernel
theorem own_lm_165 : parseFieldDescriptor "Ljava/util/Map;" = some (.object "java/util/Map") := by decide +kernel
theorem own_d_prog_21_10_3 : decode prog_21_method_10_code 3 = .ok (.dup, 1) := by decide +kernel
theorem own_d_prog_21_10_4 : decode prog_21_method_10_code 4 = .ok (.getstatic 111, 3) := by decide +kernel
theorem own_d_prog_21_10_7 : decode prog_21_method_10_code 7 = .ok (.aconst_null, 1) := by decide +kernel
theorem own_d_prog_21_10_8 : decode prog_21_method_10_code 8 = .ok (.dload_n 0, 1) := by decide +kernel
theorem own_d_prog_21_10_9 : decode prog_21_method_10_code 9 = .ok (.aconst_null, 1) := by decide +kernel
theorem own_d_prog_21_10_10 : decode prog_21_method_10_code 10 = .ok (.aconst_null, 1) := by decide +kernel
theorem own_d_prog_21_10_11 : decode prog_21_method_10_code 11 = .ok (.invokestatic 48, 3) := by decide +kernel
theorem own_d_jdk_40_36_0 : decode jdk_40_method_36_code 0 = .ok (.getstatic 90, 3) := by decide +kernel
theorem own_d_jdk_40_36_3 : decode jdk_40_method_36_code 3 = .ok (.areturn, 1) := by decide +kernel
abbrev own_y_175 : MethodName := ⟨"java/util/List", "of", "()Ljava/util/List;"⟩
theorem own_pn_176 : plainName "java/util/List" = true := by first | (simp [plainName, overriddenIn]; done) | decide +kernel
theorem own_ef_rmU2 (m : MethodId)   : entryFrame m #[] 0 = mkF m 0 #[] [] := by first | (simp [entryFrame, mkF, argsToLocals, Value.category, maxLocals]; done) | rfl
def QrmU2 (Z : State) (w0 wl wp mr : Addr)  (h0 : Heap) (n0 : Nat) (v : Option Value) (h : Heap) (L : List Loc) : Prop := v = some (.ref wl) ∧ Fr n0 L ∧ h = h0
set_option maxRecDepth 65536 in
set_option maxHeartbeats 40000000 in
theorem rmU2 (l : Launch) (Z : State) (a0 : Array Value) (hw : own_H a0 Z) (ws : List Jvm.Cond) (w0 wl wp mr : Addr) (hS : own_S Z w0 wl wp mr)  (h0 : Heap) (n0 : Nat) (O0 : Old Z n0 h0)  :
    own_Met l own_y_175 jdk_40_method_36_code 0 (some (.object "java/util/List")) ws ({ frames := 0, cells := 0, slots := 0, locals := 0 } : Room) Z h0 #[] (QrmU2 Z w0 wl wp mr  h0 n0) := by
  refine own_body (plainFor_of_name own_pn_176) ?_
  intro p e s m below meth c s₁ hx hby hml hown hnm hret hlk hZ e0 X0
  have N0 := Fr.nil n0
  refine own_st (fun u_ k_ => castTop (own_ef_rmU2 m ) k_) ?_
  show own_Go p e below _ (s₁.setTop (mkF m 0 #[] []))
  have F68 := Sta.ext O0.2 hS.2.2.2.1
  obtain ⟨T69, X69, e69, st69⟩ := getS2 X0 hx hZ hown (host := "") (Or.inl (own_w hw 18 rfl)) Via.refl e0 F68 (g := (mkF m 0 #[] [])) rfl (hb hby own_d_jdk_40_36_0)
  refine own_st (fun u_ k_ => st69 u_ k_) ?_
  show own_Go p e below _ (T69.setTop (mkF m 3 #[] [(.ref wl)]))
  exact own_retX X69 hx hlk hret rfl (Or.inr (Or.inr (Or.inr (Or.inr ⟨rfl, rfl, rfl⟩)))) (hb hby own_d_jdk_40_36_3) (by decide) (by decide) (show QrmU2 Z w0 wl wp mr  h0 n0 (some (.ref wl)) T69.heap _ from (by rw [e69]; exact ⟨rfl, N0, rfl⟩))
theorem own_lm_177 : ("java/util/List" : String) ≠ "java/lang/invoke/MethodHandle" ∧ ("java/util/List" : String) ≠ "java/lang/invoke/VarHandle" := by decide +kernel
theorem own_pd_178 : parseMethodDescriptor "()Ljava/util/List;" = some ⟨[], some (.object "java/util/List")⟩ := by decide +kernel
theorem own_d_prog_21_10_14 : decode prog_21_method_10_code 14 = .ok (.invokestatic 54, 3) := by decide +kernel
theorem own_d_jdk_72_26_0 : decode jdk_72_method_26_code 0 = .ok (.getstatic 81, 3) := by decide +kernel
theorem own_d_jdk_72_26_3 : decode jdk_72_method_26_code 3 = .ok (.areturn, 1) := by decide +kernel
abbrev own_y_182 : MethodName := ⟨"java/util/Map", "of", "()Ljava/util/Map;"⟩
theorem own_pn_183 : plainName "java/util/Map" = true := by first | (simp [plainName, overriddenIn]; done) | decide +kernel
theorem own_ef_rmU3 (m : MethodId)   : entryFrame m #[] 0 = mkF m 0 #[] [] := by first | (simp [entryFrame, mkF, argsToLocals, Value.category, maxLocals]; done) | rfl
def QrmU3 (Z : State) (w0 wl wp mr : Addr)  (h0 : Heap) (n0 : Nat) (v : Option Value) (h : Heap) (L : List Loc) : Prop := v = some (.ref wp) ∧ Fr n0 L ∧ h = h0
set_option maxRecDepth 65536 in
set_option maxHeartbeats 40000000 in
theorem rmU3 (l : Launch) (Z : State) (a0 : Array Value) (hw : own_H a0 Z) (ws : List Jvm.Cond) (w0 wl wp mr : Addr) (hS : own_S Z w0 wl wp mr)  (h0 : Heap) (n0 : Nat) (O0 : Old Z n0 h0)  :
    own_Met l own_y_182 jdk_72_method_26_code 0 (some (.object "java/util/Map")) ws ({ frames := 0, cells := 0, slots := 0, locals := 0 } : Room) Z h0 #[] (QrmU3 Z w0 wl wp mr  h0 n0) := by
  refine own_body (plainFor_of_name own_pn_183) ?_
  intro p e s m below meth c s₁ hx hby hml hown hnm hret hlk hZ e0 X0
  have N0 := Fr.nil n0
  refine own_st (fun u_ k_ => castTop (own_ef_rmU3 m ) k_) ?_
  show own_Go p e below _ (s₁.setTop (mkF m 0 #[] []))
  have F73 := Sta.ext O0.2 hS.2.2.2.2.1
  obtain ⟨T74, X74, e74, st74⟩ := getS2 X0 hx hZ hown (host := "") (Or.inl (own_w hw 24 rfl)) Via.refl e0 F73 (g := (mkF m 0 #[] [])) rfl (hb hby own_d_jdk_72_26_0)
  refine own_st (fun u_ k_ => st74 u_ k_) ?_
  show own_Go p e below _ (T74.setTop (mkF m 3 #[] [(.ref wp)]))
  exact own_retX X74 hx hlk hret rfl (Or.inr (Or.inr (Or.inr (Or.inr ⟨rfl, rfl, rfl⟩)))) (hb hby own_d_jdk_72_26_3) (by decide) (by decide) (show QrmU3 Z w0 wl wp mr  h0 n0 (some (.ref wp)) T74.heap _ from (by rw [e74]; exact ⟨rfl, N0, rfl⟩))
theorem own_lm_184 : ("java/util/Map" : String) ≠ "java/lang/invoke/MethodHandle" ∧ ("java/util/Map" : String) ≠ "java/lang/invoke/VarHandle" := by decide +kernel
theorem own_pd_185 : parseMethodDescriptor "()Ljava/util/Map;" = some ⟨[], some (.object "java/util/Map")⟩ := by decide +kernel
theorem own_d_prog_21_10_17 : decode prog_21_method_10_code 17 = .ok (.invokespecial 59, 3) := by decide +kernel
theorem own_d_prog_21_1_0 : decode prog_21_method_1_code 0 = .ok (.aload_n 0, 1) := by decide +kernel
theorem own_d_prog_21_1_1 : decode prog_21_method_1_code 1 = .ok (.invokespecial 1, 3) := by decide +kernel
theorem own_d_prog_21_1_4 : decode prog_21_method_1_code 4 = .ok (.aload_n 0, 1) := by decide +kernel
theorem own_d_prog_21_1_5 : decode prog_21_method_1_code 5 = .ok (.aload_n 1, 1) := by decide +kernel
theorem own_d_prog_21_1_6 : decode prog_21_method_1_code 6 = .ok (.putfield 7, 3) := by decide +kernel
theorem own_d_prog_21_1_9 : decode prog_21_method_1_code 9 = .ok (.aload_n 0, 1) := by decide +kernel
theorem own_d_prog_21_1_10 : decode prog_21_method_1_code 10 = .ok (.aload_n 2, 1) := by decide +kernel
theorem own_d_prog_21_1_11 : decode prog_21_method_1_code 11 = .ok (.putfield 13, 3) := by decide +kernel
theorem own_lm_195 : ("number" : String) ≠ "type" := by decide +kernel
def own_sn_196 {Z : State} {a0 : Array Value} (hw : own_H a0 Z) := slot_ne (Or.inr (own_w hw 34 rfl)) (Or.inr (own_w hw 32 rfl)) own_lm_195 (t := (.object "java/math/BigInteger")) (t' := (.object "com/example/tasdik/tasdik/core/cbor/CborValue$Type")) own_lm_160 own_lm_158
theorem own_d_prog_21_1_14 : decode prog_21_method_1_code 14 = .ok (.aload_n 0, 1) := by decide +kernel
theorem own_d_prog_21_1_15 : decode prog_21_method_1_code 15 = .ok (.dload_n 3, 1) := by decide +kernel
theorem own_d_prog_21_1_16 : decode prog_21_method_1_code 16 = .ok (.putfield 17, 3) := by decide +kernel
theorem own_lm_200 : ("floatValue" : String) ≠ "type" := by decide +kernel
def own_sn_201 {Z : State} {a0 : Array Value} (hw : own_H a0 Z) := slot_ne (Or.inr (own_w hw 36 rfl)) (Or.inr (own_w hw 32 rfl)) own_lm_200 (t := .double) (t' := (.object "com/example/tasdik/tasdik/core/cbor/CborValue$Type")) own_lm_161 own_lm_158
theorem own_lm_202 : ("floatValue" : String) ≠ "number" := by decide +kernel
def own_sn_203 {Z : State} {a0 : Array Value} (hw : own_H a0 Z) := slot_ne (Or.inr (own_w hw 36 rfl)) (Or.inr (own_w hw 34 rfl)) own_lm_202 (t := .double) (t' := (.object "java/math/BigInteger")) own_lm_161 own_lm_160
theorem own_d_prog_21_1_19 : decode prog_21_method_1_code 19 = .ok (.aload_n 0, 1) := by decide +kernel
theorem own_d_prog_21_1_20 : decode prog_21_method_1_code 20 = .ok (.aload 5, 2) := by decide +kernel
theorem own_d_prog_21_1_22 : decode prog_21_method_1_code 22 = .ok (.putfield 21, 3) := by decide +kernel
theorem own_lm_207 : ("bytes" : String) ≠ "type" := by decide +kernel
def own_sn_208 {Z : State} {a0 : Array Value} (hw : own_H a0 Z) := slot_ne (Or.inr (own_w hw 38 rfl)) (Or.inr (own_w hw 32 rfl)) own_lm_207 (t := (.array .byte)) (t' := (.object "com/example/tasdik/tasdik/core/cbor/CborValue$Type")) own_lm_162 own_lm_158
theorem own_lm_209 : ("bytes" : String) ≠ "number" := by decide +kernel
def own_sn_210 {Z : State} {a0 : Array Value} (hw : own_H a0 Z) := slot_ne (Or.inr (own_w hw 38 rfl)) (Or.inr (own_w hw 34 rfl)) own_lm_209 (t := (.array .byte)) (t' := (.object "java/math/BigInteger")) own_lm_162 own_lm_160
theorem own_lm_211 : ("bytes" : String) ≠ "floatValue" := by decide +kernel
def own_sn_212 {Z : State} {a0 : Array Value} (hw : own_H a0 Z) := slot_ne (Or.inr (own_w hw 38 rfl)) (Or.inr (own_w hw 36 rfl)) own_lm_211 (t := (.array .byte)) (t' := .double) own_lm_162 own_lm_161
theorem own_d_prog_21_1_25 : decode prog_21_method_1_code 25 = .ok (.aload_n 0, 1) := by decide +kernel
theorem own_d_prog_21_1_26 : decode prog_21_method_1_code 26 = .ok (.aload 6, 2) := by decide +kernel
theorem own_d_prog_21_1_28 : decode prog_21_method_1_code 28 = .ok (.putfield 25, 3) := by decide +kernel
theorem own_lm_216 : ("text" : String) ≠ "type" := by decide +kernel
def own_sn_217 {Z : State} {a0 : Array Value} (hw : own_H a0 Z) := slot_ne (Or.inr (own_w hw 40 rfl)) (Or.inr (own_w hw 32 rfl)) own_lm_216 (t := (.object "java/lang/String")) (t' := (.object "com/example/tasdik/tasdik/core/cbor/CborValue$Type")) own_lm_163 own_lm_158
theorem own_lm_218 : ("text" : String) ≠ "number" := by decide +kernel
def own_sn_219 {Z : State} {a0 : Array Value} (hw : own_H a0 Z) := slot_ne (Or.inr (own_w hw 40 rfl)) (Or.inr (own_w hw 34 rfl)) own_lm_218 (t := (.object "java/lang/String")) (t' := (.object "java/math/BigInteger")) own_lm_163 own_lm_160
theorem own_lm_220 : ("text" : String) ≠ "floatValue" := by decide +kernel
def own_sn_221 {Z : State} {a0 : Array Value} (hw : own_H a0 Z) := slot_ne (Or.inr (own_w hw 40 rfl)) (Or.inr (own_w hw 36 rfl)) own_lm_220 (t := (.object "java/lang/String")) (t' := .double) own_lm_163 own_lm_161
theorem own_lm_222 : ("text" : String) ≠ "bytes" := by decide +kernel
def own_sn_223 {Z : State} {a0 : Array Value} (hw : own_H a0 Z) := slot_ne (Or.inr (own_w hw 40 rfl)) (Or.inr (own_w hw 38 rfl)) own_lm_222 (t := (.object "java/lang/String")) (t' := (.array .byte)) own_lm_163 own_lm_162
theorem own_d_prog_21_1_31 : decode prog_21_method_1_code 31 = .ok (.aload_n 0, 1) := by decide +kernel
theorem own_d_prog_21_1_32 : decode prog_21_method_1_code 32 = .ok (.aload 7, 2) := by decide +kernel
theorem own_d_prog_21_1_34 : decode prog_21_method_1_code 34 = .ok (.putfield 29, 3) := by decide +kernel
theorem own_lm_227 : ("items" : String) ≠ "type" := by decide +kernel
def own_sn_228 {Z : State} {a0 : Array Value} (hw : own_H a0 Z) := slot_ne (Or.inr (own_w hw 42 rfl)) (Or.inr (own_w hw 32 rfl)) own_lm_227 (t := (.object "java/util/List")) (t' := (.object "com/example/tasdik/tasdik/core/cbor/CborValue$Type")) own_lm_164 own_lm_158
theorem own_lm_229 : ("items" : String) ≠ "number" := by decide +kernel
def own_sn_230 {Z : State} {a0 : Array Value} (hw : own_H a0 Z) := slot_ne (Or.inr (own_w hw 42 rfl)) (Or.inr (own_w hw 34 rfl)) own_lm_229 (t := (.object "java/util/List")) (t' := (.object "java/math/BigInteger")) own_lm_164 own_lm_160
theorem own_lm_231 : ("items" : String) ≠ "floatValue" := by decide +kernel
def own_sn_232 {Z : State} {a0 : Array Value} (hw : own_H a0 Z) := slot_ne (Or.inr (own_w hw 42 rfl)) (Or.inr (own_w hw 36 rfl)) own_lm_231 (t := (.object "java/util/List")) (t' := .double) own_lm_164 own_lm_161
theorem own_lm_233 : ("items" : String) ≠ "bytes" := by decide +kernel
def own_sn_234 {Z : State} {a0 : Array Value} (hw : own_H a0 Z) := slot_ne (Or.inr (own_w hw 42 rfl)) (Or.inr (own_w hw 38 rfl)) own_lm_233 (t := (.object "java/util/List")) (t' := (.array .byte)) own_lm_164 own_lm_162
theorem own_lm_235 : ("items" : String) ≠ "text" := by decide +kernel
def own_sn_236 {Z : State} {a0 : Array Value} (hw : own_H a0 Z) := slot_ne (Or.inr (own_w hw 42 rfl)) (Or.inr (own_w hw 40 rfl)) own_lm_235 (t := (.object "java/util/List")) (t' := (.object "java/lang/String")) own_lm_164 own_lm_163
theorem own_d_prog_21_1_37 : decode prog_21_method_1_code 37 = .ok (.aload_n 0, 1) := by decide +kernel
theorem own_d_prog_21_1_38 : decode prog_21_method_1_code 38 = .ok (.aload 8, 2) := by decide +kernel
theorem own_d_prog_21_1_40 : decode prog_21_method_1_code 40 = .ok (.putfield 33, 3) := by decide +kernel
theorem own_lm_240 : ("entries" : String) ≠ "type" := by decide +kernel
def own_sn_241 {Z : State} {a0 : Array Value} (hw : own_H a0 Z) := slot_ne (Or.inr (own_w hw 44 rfl)) (Or.inr (own_w hw 32 rfl)) own_lm_240 (t := (.object "java/util/Map")) (t' := (.object "com/example/tasdik/tasdik/core/cbor/CborValue$Type")) own_lm_165 own_lm_158
theorem own_lm_242 : ("entries" : String) ≠ "number" := by decide +kernel
def own_sn_243 {Z : State} {a0 : Array Value} (hw : own_H a0 Z) := slot_ne (Or.inr (own_w hw 44 rfl)) (Or.inr (own_w hw 34 rfl)) own_lm_242 (t := (.object "java/util/Map")) (t' := (.object "java/math/BigInteger")) own_lm_165 own_lm_160
theorem own_lm_244 : ("entries" : String) ≠ "floatValue" := by decide +kernel
def own_sn_245 {Z : State} {a0 : Array Value} (hw : own_H a0 Z) := slot_ne (Or.inr (own_w hw 44 rfl)) (Or.inr (own_w hw 36 rfl)) own_lm_244 (t := (.object "java/util/Map")) (t' := .double) own_lm_165 own_lm_161
theorem own_lm_246 : ("entries" : String) ≠ "bytes" := by decide +kernel
def own_sn_247 {Z : State} {a0 : Array Value} (hw : own_H a0 Z) := slot_ne (Or.inr (own_w hw 44 rfl)) (Or.inr (own_w hw 38 rfl)) own_lm_246 (t := (.object "java/util/Map")) (t' := (.array .byte)) own_lm_165 own_lm_162
theorem own_lm_248 : ("entries" : String) ≠ "text" := by decide +kernel
def own_sn_249 {Z : State} {a0 : Array Value} (hw : own_H a0 Z) := slot_ne (Or.inr (own_w hw 44 rfl)) (Or.inr (own_w hw 40 rfl)) own_lm_248 (t := (.object "java/util/Map")) (t' := (.object "java/lang/String")) own_lm_165 own_lm_163
theorem own_lm_250 : ("entries" : String) ≠ "items" := by decide +kernel
def own_sn_251 {Z : State} {a0 : Array Value} (hw : own_H a0 Z) := slot_ne (Or.inr (own_w hw 44 rfl)) (Or.inr (own_w hw 42 rfl)) own_lm_250 (t := (.object "java/util/Map")) (t' := (.object "java/util/List")) own_lm_165 own_lm_164
theorem own_d_prog_21_1_43 : decode prog_21_method_1_code 43 = .ok (.return_, 1) := by decide +kernel
theorem own_lm_253 : ("bytes" : String) ≠ "text" := by decide +kernel
def own_sn_254 {Z : State} {a0 : Array Value} (hw : own_H a0 Z) := slot_ne (Or.inr (own_w hw 38 rfl)) (Or.inr (own_w hw 40 rfl)) own_lm_253 (t := (.array .byte)) (t' := (.object "java/lang/String")) own_lm_162 own_lm_163
theorem own_lm_255 : ("bytes" : String) ≠ "items" := by decide +kernel
def own_sn_256 {Z : State} {a0 : Array Value} (hw : own_H a0 Z) := slot_ne (Or.inr (own_w hw 38 rfl)) (Or.inr (own_w hw 42 rfl)) own_lm_255 (t := (.array .byte)) (t' := (.object "java/util/List")) own_lm_162 own_lm_164
theorem own_lm_257 : ("bytes" : String) ≠ "entries" := by decide +kernel
def own_sn_258 {Z : State} {a0 : Array Value} (hw : own_H a0 Z) := slot_ne (Or.inr (own_w hw 38 rfl)) (Or.inr (own_w hw 44 rfl)) own_lm_257 (t := (.array .byte)) (t' := (.object "java/util/Map")) own_lm_162 own_lm_165
theorem own_lm_259 : ("floatValue" : String) ≠ "bytes" := by decide +kernel
def own_sn_260 {Z : State} {a0 : Array Value} (hw : own_H a0 Z) := slot_ne (Or.inr (own_w hw 36 rfl)) (Or.inr (own_w hw 38 rfl)) own_lm_259 (t := .double) (t' := (.array .byte)) own_lm_161 own_lm_162
theorem own_lm_261 : ("floatValue" : String) ≠ "text" := by decide +kernel
def own_sn_262 {Z : State} {a0 : Array Value} (hw : own_H a0 Z) := slot_ne (Or.inr (own_w hw 36 rfl)) (Or.inr (own_w hw 40 rfl)) own_lm_261 (t := .double) (t' := (.object "java/lang/String")) own_lm_161 own_lm_163
theorem own_lm_263 : ("floatValue" : String) ≠ "items" := by decide +kernel
def own_sn_264 {Z : State} {a0 : Array Value} (hw : own_H a0 Z) := slot_ne (Or.inr (own_w hw 36 rfl)) (Or.inr (own_w hw 42 rfl)) own_lm_263 (t := .double) (t' := (.object "java/util/List")) own_lm_161 own_lm_164
theorem own_lm_265 : ("floatValue" : String) ≠ "entries" := by decide +kernel
def own_sn_266 {Z : State} {a0 : Array Value} (hw : own_H a0 Z) := slot_ne (Or.inr (own_w hw 36 rfl)) (Or.inr (own_w hw 44 rfl)) own_lm_265 (t := .double) (t' := (.object "java/util/Map")) own_lm_161 own_lm_165
theorem own_lm_267 : ("items" : String) ≠ "entries" := by decide +kernel
def own_sn_268 {Z : State} {a0 : Array Value} (hw : own_H a0 Z) := slot_ne (Or.inr (own_w hw 42 rfl)) (Or.inr (own_w hw 44 rfl)) own_lm_267 (t := (.object "java/util/List")) (t' := (.object "java/util/Map")) own_lm_164 own_lm_165
theorem own_lm_269 : ("number" : String) ≠ "floatValue" := by decide +kernel
def own_sn_270 {Z : State} {a0 : Array Value} (hw : own_H a0 Z) := slot_ne (Or.inr (own_w hw 34 rfl)) (Or.inr (own_w hw 36 rfl)) own_lm_269 (t := (.object "java/math/BigInteger")) (t' := .double) own_lm_160 own_lm_161
theorem own_lm_271 : ("number" : String) ≠ "bytes" := by decide +kernel
def own_sn_272 {Z : State} {a0 : Array Value} (hw : own_H a0 Z) := slot_ne (Or.inr (own_w hw 34 rfl)) (Or.inr (own_w hw 38 rfl)) own_lm_271 (t := (.object "java/math/BigInteger")) (t' := (.array .byte)) own_lm_160 own_lm_162
theorem own_lm_273 : ("number" : String) ≠ "text" := by decide +kernel
def own_sn_274 {Z : State} {a0 : Array Value} (hw : own_H a0 Z) := slot_ne (Or.inr (own_w hw 34 rfl)) (Or.inr (own_w hw 40 rfl)) own_lm_273 (t := (.object "java/math/BigInteger")) (t' := (.object "java/lang/String")) own_lm_160 own_lm_163
theorem own_lm_275 : ("number" : String) ≠ "items" := by decide +kernel
def own_sn_276 {Z : State} {a0 : Array Value} (hw : own_H a0 Z) := slot_ne (Or.inr (own_w hw 34 rfl)) (Or.inr (own_w hw 42 rfl)) own_lm_275 (t := (.object "java/math/BigInteger")) (t' := (.object "java/util/List")) own_lm_160 own_lm_164
theorem own_lm_277 : ("number" : String) ≠ "entries" := by decide +kernel
def own_sn_278 {Z : State} {a0 : Array Value} (hw : own_H a0 Z) := slot_ne (Or.inr (own_w hw 34 rfl)) (Or.inr (own_w hw 44 rfl)) own_lm_277 (t := (.object "java/math/BigInteger")) (t' := (.object "java/util/Map")) own_lm_160 own_lm_165
theorem own_lm_279 : ("text" : String) ≠ "items" := by decide +kernel
def own_sn_280 {Z : State} {a0 : Array Value} (hw : own_H a0 Z) := slot_ne (Or.inr (own_w hw 40 rfl)) (Or.inr (own_w hw 42 rfl)) own_lm_279 (t := (.object "java/lang/String")) (t' := (.object "java/util/List")) own_lm_163 own_lm_164
theorem own_lm_281 : ("text" : String) ≠ "entries" := by decide +kernel
def own_sn_282 {Z : State} {a0 : Array Value} (hw : own_H a0 Z) := slot_ne (Or.inr (own_w hw 40 rfl)) (Or.inr (own_w hw 44 rfl)) own_lm_281 (t := (.object "java/lang/String")) (t' := (.object "java/util/Map")) own_lm_163 own_lm_165
theorem own_lm_283 : ("type" : String) ≠ "number" := by decide +kernel
def own_sn_284 {Z : State} {a0 : Array Value} (hw : own_H a0 Z) := slot_ne (Or.inr (own_w hw 32 rfl)) (Or.inr (own_w hw 34 rfl)) own_lm_283 (t := (.object "com/example/tasdik/tasdik/core/cbor/CborValue$Type")) (t' := (.object "java/math/BigInteger")) own_lm_158 own_lm_160
theorem own_lm_285 : ("type" : String) ≠ "floatValue" := by decide +kernel
def own_sn_286 {Z : State} {a0 : Array Value} (hw : own_H a0 Z) := slot_ne (Or.inr (own_w hw 32 rfl)) (Or.inr (own_w hw 36 rfl)) own_lm_285 (t := (.object "com/example/tasdik/tasdik/core/cbor/CborValue$Type")) (t' := .double) own_lm_158 own_lm_161
theorem own_lm_287 : ("type" : String) ≠ "bytes" := by decide +kernel
def own_sn_288 {Z : State} {a0 : Array Value} (hw : own_H a0 Z) := slot_ne (Or.inr (own_w hw 32 rfl)) (Or.inr (own_w hw 38 rfl)) own_lm_287 (t := (.object "com/example/tasdik/tasdik/core/cbor/CborValue$Type")) (t' := (.array .byte)) own_lm_158 own_lm_162
theorem own_lm_289 : ("type" : String) ≠ "text" := by decide +kernel
def own_sn_290 {Z : State} {a0 : Array Value} (hw : own_H a0 Z) := slot_ne (Or.inr (own_w hw 32 rfl)) (Or.inr (own_w hw 40 rfl)) own_lm_289 (t := (.object "com/example/tasdik/tasdik/core/cbor/CborValue$Type")) (t' := (.object "java/lang/String")) own_lm_158 own_lm_163
theorem own_lm_291 : ("type" : String) ≠ "items" := by decide +kernel
def own_sn_292 {Z : State} {a0 : Array Value} (hw : own_H a0 Z) := slot_ne (Or.inr (own_w hw 32 rfl)) (Or.inr (own_w hw 42 rfl)) own_lm_291 (t := (.object "com/example/tasdik/tasdik/core/cbor/CborValue$Type")) (t' := (.object "java/util/List")) own_lm_158 own_lm_164
theorem own_lm_293 : ("type" : String) ≠ "entries" := by decide +kernel
def own_sn_294 {Z : State} {a0 : Array Value} (hw : own_H a0 Z) := slot_ne (Or.inr (own_w hw 32 rfl)) (Or.inr (own_w hw 44 rfl)) own_lm_293 (t := (.object "com/example/tasdik/tasdik/core/cbor/CborValue$Type")) (t' := (.object "java/util/Map")) own_lm_158 own_lm_165
abbrev own_y_295 : MethodName := ⟨"com/example/tasdik/tasdik/core/cbor/CborValue", "<init>", "(Lcom/example/tasdik/tasdik/core/cbor/CborValue$Type;Ljava/math/BigInteger;D[BLjava/lang/String;Ljava/util/List;Ljava/util/Map;)V"⟩
theorem own_ef_rmU4 (m : MethodId) (w0 : Addr) (wl : Addr) (wp : Addr) (ad0 : Addr) (iv1 : UInt64)  : entryFrame m #[(.ref ad0), (.ref w0), .null, (.double iv1), .null, .null, (.ref wl), (.ref wp)] 9 = mkF m 0 #[.val (.ref ad0), .val (.ref w0), .val .null, .val (.double iv1), .second, .val .null, .val .null, .val (.ref wl), .val (.ref wp)] [] := by first | (simp [entryFrame, mkF, argsToLocals, Value.category, maxLocals]; done) | rfl
def QrmU4 (Z : State) (w0 wl wp mr : Addr) (ad0 : Addr) (iv1 : UInt64) (h0 : Heap) (n0 : Nat) (v : Option Value) (h : Heap) (L : List Loc) : Prop := v = none ∧ Fr n0 L ∧ Keep h0 h [ad0] ∧ Exa Z h ad0 own_c_101 ∧ Fld Z h ad0 own_c_101 "bytes" "[B" .null ∧ Fld Z h ad0 own_c_101 "entries" "Ljava/util/Map;" (.ref wp) ∧ Fld Z h ad0 own_c_101 "floatValue" "D" (.double iv1) ∧ Fld Z h ad0 own_c_101 "items" "Ljava/util/List;" (.ref wl) ∧ Fld Z h ad0 own_c_101 "number" own_c_159 .null ∧ Fld Z h ad0 own_c_101 "text" "Ljava/lang/String;" .null ∧ Fld Z h ad0 own_c_101 "type" own_c_102 (.ref w0)
set_option maxRecDepth 65536 in
set_option maxHeartbeats 40000000 in
theorem rmU4 (l : Launch) (Z : State) (a0 : Array Value) (hw : own_H a0 Z) (ws : List Jvm.Cond) (w0 wl wp mr : Addr) (hS : own_S Z w0 wl wp mr) (ad0 : Addr) (iv1 : UInt64) (h0 : Heap) (n0 : Nat) (O0 : Old Z n0 h0) (pe1 : Exa Z h0 ad0 own_c_101) (pf2 : Fld Z h0 ad0 own_c_101 "bytes" "[B" .null) (pf3 : Fld Z h0 ad0 own_c_101 "entries" "Ljava/util/Map;" .null) (pf4 : Fld Z h0 ad0 own_c_101 "floatValue" "D" (.double (0 : UInt64))) (pf5 : Fld Z h0 ad0 own_c_101 "items" "Ljava/util/List;" .null) (pf6 : Fld Z h0 ad0 own_c_101 "number" own_c_159 .null) (pf7 : Fld Z h0 ad0 own_c_101 "text" "Ljava/lang/String;" .null) (pf8 : Fld Z h0 ad0 own_c_101 "type" own_c_102 .null) (pg_ad0 : n0 ≤ ad0) :
    own_Met l own_y_295 prog_21_method_1_code 9 none ws ({ frames := 1, cells := 0, slots := 0, locals := 12 } : Room) Z h0 #[(.ref ad0), (.ref w0), .null, (.double iv1), .null, .null, (.ref wl), (.ref wp)] (QrmU4 Z w0 wl wp mr ad0 iv1 h0 n0) := by
  refine own_body (plainFor_of_name own_pn_100) ?_
  intro p e s m below meth c s₁ hx hby hml hown hnm hret hlk hZ e0 X0
  have N0 := Fr.nil n0
  refine own_st (fun u_ k_ => castTop (own_ef_rmU4 m w0 wl wp ad0 iv1) k_) ?_
  show own_Go p e below _ (s₁.setTop (mkF m 0 #[.val (.ref ad0), .val (.ref w0), .val .null, .val (.double iv1), .second, .val .null, .val .null, .val (.ref wl), .val (.ref wp)] []))
  refine own_st (fun u_ k_ => XS.aloadN X0.here hx rfl (hb hby own_d_prog_21_1_0) rfl rfl k_) ?_
  obtain ⟨T103, X103, e103, st103⟩ := initO X0 hx hZ hown (own_w hw 28 rfl) (own_w hw 29 rfl) (own_w hw 30 rfl) e0 (g := (mkF m 1 #[.val (.ref ad0), .val (.ref w0), .val .null, .val (.double iv1), .second, .val .null, .val .null, .val (.ref wl), .val (.ref wp)] [(.ref ad0)])) rfl (by rw [hml]; rfl) rfl (hb hby own_d_prog_21_1_1) (by decide) (W := 0) (by show 2 * 0 + _ ≤ _; exact Nat.le_of_eq rfl) (by decide)
  refine own_st (fun u_ k_ => st103 u_ k_) ?_
  show own_Go p e below _ (T103.setTop (mkF m 4 #[.val (.ref ad0), .val (.ref w0), .val .null, .val (.double iv1), .second, .val .null, .val .null, .val (.ref wl), .val (.ref wp)] []))
  refine own_st (fun u_ k_ => XS.aloadN X103.here hx rfl (hb hby own_d_prog_21_1_4) rfl rfl k_) ?_
  refine own_st (fun u_ k_ => XS.aloadN X103.here hx rfl (hb hby own_d_prog_21_1_5) rfl rfl k_) ?_
  show own_Go p e below _ (T103.setTop (mkF m 6 #[.val (.ref ad0), .val (.ref w0), .val .null, .val (.double iv1), .second, .val .null, .val .null, .val (.ref wl), .val (.ref wp)] [(.ref w0), (.ref ad0)]))
  obtain ⟨T104, h104, X104, e104, W104, st104⟩ := putF X103 hx hZ hown (host := "") (Or.inl (own_w hw 31 rfl)) Via.refl e103 pf8 pe1 (Or.inr ⟨(own_w hw 32 rfl), rfl, hnm⟩) (own_w hw 10 rfl) (ty := (.object "com/example/tasdik/tasdik/core/cbor/CborValue$Type")) own_lm_158 rfl rfl (g := (mkF m 6 #[.val (.ref ad0), .val (.ref w0), .val .null, .val (.double iv1), .second, .val .null, .val .null, .val (.ref wl), .val (.ref wp)] [(.ref w0), (.ref ad0)])) rfl rfl (hb hby own_d_prog_21_1_6)
  have N104 := Fr.snoc X104 N0 pg_ad0
  have F105 : Fld Z h104 ad0 own_c_101 "type" own_c_102 (.ref w0) := Fld.same W104 pf8
  refine own_st (fun u_ k_ => st104 u_ k_) ?_
  show own_Go p e below _ (T104.setTop (mkF m 9 #[.val (.ref ad0), .val (.ref w0), .val .null, .val (.double iv1), .second, .val .null, .val .null, .val (.ref wl), .val (.ref wp)] []))
  refine own_st (fun u_ k_ => XS.aloadN X104.here hx rfl (hb hby own_d_prog_21_1_9) rfl rfl k_) ?_
  refine own_st (fun u_ k_ => XS.aloadN X104.here hx rfl (hb hby own_d_prog_21_1_10) rfl rfl k_) ?_
  show own_Go p e below _ (T104.setTop (mkF m 11 #[.val (.ref ad0), .val (.ref w0), .val .null, .val (.double iv1), .second, .val .null, .val .null, .val (.ref wl), .val (.ref wp)] [.null, (.ref ad0)]))
  have F106 := (Exa.wr W104 pe1)
  have F107 := (Fld.other W104 pf6 (Or.inr (own_sn_196 hw)))
  obtain ⟨T108, h108, X108, e108, W108, st108⟩ := putF X104 hx hZ hown (host := "") (Or.inl (own_w hw 33 rfl)) Via.refl e104 F107 F106 (Or.inr ⟨(own_w hw 34 rfl), rfl, hnm⟩) (own_w hw 10 rfl) (ty := (.object "java/math/BigInteger")) own_lm_160 rfl rfl (g := (mkF m 11 #[.val (.ref ad0), .val (.ref w0), .val .null, .val (.double iv1), .second, .val .null, .val .null, .val (.ref wl), .val (.ref wp)] [.null, (.ref ad0)])) rfl rfl (hb hby own_d_prog_21_1_11)
  have N108 := Fr.snoc X108 N104 pg_ad0
  have F109 : Fld Z h108 ad0 own_c_101 "number" own_c_159 .null := Fld.same W108 F107
  refine own_st (fun u_ k_ => st108 u_ k_) ?_
  show own_Go p e below _ (T108.setTop (mkF m 14 #[.val (.ref ad0), .val (.ref w0), .val .null, .val (.double iv1), .second, .val .null, .val .null, .val (.ref wl), .val (.ref wp)] []))
  refine own_st (fun u_ k_ => XS.aloadN X108.here hx rfl (hb hby own_d_prog_21_1_14) rfl rfl k_) ?_
  refine own_st (fun u_ k_ => XS.dloadN X108.here hx rfl (hb hby own_d_prog_21_1_15) rfl k_) ?_
  show own_Go p e below _ (T108.setTop (mkF m 16 #[.val (.ref ad0), .val (.ref w0), .val .null, .val (.double iv1), .second, .val .null, .val .null, .val (.ref wl), .val (.ref wp)] [(.double iv1), (.ref ad0)]))
  have F110 := (Exa.wr W108 F106)
  have F111 := (Fld.other W108 (Fld.other W104 pf4 (Or.inr (own_sn_201 hw))) (Or.inr (own_sn_203 hw)))
  obtain ⟨T112, h112, X112, e112, W112, st112⟩ := putF X108 hx hZ hown (host := "") (Or.inl (own_w hw 35 rfl)) Via.refl e108 F111 F110 (Or.inr ⟨(own_w hw 36 rfl), rfl, hnm⟩) (own_w hw 10 rfl) (ty := .double) own_lm_161 rfl rfl (g := (mkF m 16 #[.val (.ref ad0), .val (.ref w0), .val .null, .val (.double iv1), .second, .val .null, .val .null, .val (.ref wl), .val (.ref wp)] [(.double iv1), (.ref ad0)])) rfl rfl (hb hby own_d_prog_21_1_16)
  have N112 := Fr.snoc X112 N108 pg_ad0
  have F113 : Fld Z h112 ad0 own_c_101 "floatValue" "D" (.double iv1) := Fld.same W112 F111
  refine own_st (fun u_ k_ => st112 u_ k_) ?_
  show own_Go p e below _ (T112.setTop (mkF m 19 #[.val (.ref ad0), .val (.ref w0), .val .null, .val (.double iv1), .second, .val .null, .val .null, .val (.ref wl), .val (.ref wp)] []))
  refine own_st (fun u_ k_ => XS.aloadN X112.here hx rfl (hb hby own_d_prog_21_1_19) rfl rfl k_) ?_
  refine own_st (fun u_ k_ => XS.aload X112.here hx rfl (hb hby own_d_prog_21_1_20) rfl rfl k_) ?_
  show own_Go p e below _ (T112.setTop (mkF m 22 #[.val (.ref ad0), .val (.ref w0), .val .null, .val (.double iv1), .second, .val .null, .val .null, .val (.ref wl), .val (.ref wp)] [.null, (.ref ad0)]))
  have F114 := (Exa.wr W112 F110)
  have F115 := (Fld.other W112 (Fld.other W108 (Fld.other W104 pf2 (Or.inr (own_sn_208 hw))) (Or.inr (own_sn_210 hw))) (Or.inr (own_sn_212 hw)))
  obtain ⟨T116, h116, X116, e116, W116, st116⟩ := putF X112 hx hZ hown (host := "") (Or.inl (own_w hw 37 rfl)) Via.refl e112 F115 F114 (Or.inr ⟨(own_w hw 38 rfl), rfl, hnm⟩) (own_w hw 10 rfl) (ty := (.array .byte)) own_lm_162 rfl rfl (g := (mkF m 22 #[.val (.ref ad0), .val (.ref w0), .val .null, .val (.double iv1), .second, .val .null, .val .null, .val (.ref wl), .val (.ref wp)] [.null, (.ref ad0)])) rfl rfl (hb hby own_d_prog_21_1_22)
  have N116 := Fr.snoc X116 N112 pg_ad0
  have F117 : Fld Z h116 ad0 own_c_101 "bytes" "[B" .null := Fld.same W116 F115
  refine own_st (fun u_ k_ => st116 u_ k_) ?_
  show own_Go p e below _ (T116.setTop (mkF m 25 #[.val (.ref ad0), .val (.ref w0), .val .null, .val (.double iv1), .second, .val .null, .val .null, .val (.ref wl), .val (.ref wp)] []))
  refine own_st (fun u_ k_ => XS.aloadN X116.here hx rfl (hb hby own_d_prog_21_1_25) rfl rfl k_) ?_
  refine own_st (fun u_ k_ => XS.aload X116.here hx rfl (hb hby own_d_prog_21_1_26) rfl rfl k_) ?_
  show own_Go p e below _ (T116.setTop (mkF m 28 #[.val (.ref ad0), .val (.ref w0), .val .null, .val (.double iv1), .second, .val .null, .val .null, .val (.ref wl), .val (.ref wp)] [.null, (.ref ad0)]))
  have F118 := (Exa.wr W116 F114)
  have F119 := (Fld.other W116 (Fld.other W112 (Fld.other W108 (Fld.other W104 pf7 (Or.inr (own_sn_217 hw))) (Or.inr (own_sn_219 hw))) (Or.inr (own_sn_221 hw))) (Or.inr (own_sn_223 hw)))
  obtain ⟨T120, h120, X120, e120, W120, st120⟩ := putF X116 hx hZ hown (host := "") (Or.inl (own_w hw 39 rfl)) Via.refl e116 F119 F118 (Or.inr ⟨(own_w hw 40 rfl), rfl, hnm⟩) (own_w hw 10 rfl) (ty := (.object "java/lang/String")) own_lm_163 rfl rfl (g := (mkF m 28 #[.val (.ref ad0), .val (.ref w0), .val .null, .val (.double iv1), .second, .val .null, .val .null, .val (.ref wl), .val (.ref wp)] [.null, (.ref ad0)])) rfl rfl (hb hby own_d_prog_21_1_28)
  have N120 := Fr.snoc X120 N116 pg_ad0
  have F121 : Fld Z h120 ad0 own_c_101 "text" "Ljava/lang/String;" .null := Fld.same W120 F119
  refine own_st (fun u_ k_ => st120 u_ k_) ?_
  show own_Go p e below _ (T120.setTop (mkF m 31 #[.val (.ref ad0), .val (.ref w0), .val .null, .val (.double iv1), .second, .val .null, .val .null, .val (.ref wl), .val (.ref wp)] []))
  refine own_st (fun u_ k_ => XS.aloadN X120.here hx rfl (hb hby own_d_prog_21_1_31) rfl rfl k_) ?_
  refine own_st (fun u_ k_ => XS.aload X120.here hx rfl (hb hby own_d_prog_21_1_32) rfl rfl k_) ?_
  show own_Go p e below _ (T120.setTop (mkF m 34 #[.val (.ref ad0), .val (.ref w0), .val .null, .val (.double iv1), .second, .val .null, .val .null, .val (.ref wl), .val (.ref wp)] [(.ref wl), (.ref ad0)]))
  have F122 := (Exa.wr W120 F118)
  have F123 := (Fld.other W120 (Fld.other W116 (Fld.other W112 (Fld.other W108 (Fld.other W104 pf5 (Or.inr (own_sn_228 hw))) (Or.inr (own_sn_230 hw))) (Or.inr (own_sn_232 hw))) (Or.inr (own_sn_234 hw))) (Or.inr (own_sn_236 hw)))
  obtain ⟨T124, h124, X124, e124, W124, st124⟩ := putF X120 hx hZ hown (host := "") (Or.inl (own_w hw 41 rfl)) Via.refl e120 F123 F122 (Or.inr ⟨(own_w hw 42 rfl), rfl, hnm⟩) (own_w hw 10 rfl) (ty := (.object "java/util/List")) own_lm_164 rfl rfl (g := (mkF m 34 #[.val (.ref ad0), .val (.ref w0), .val .null, .val (.double iv1), .second, .val .null, .val .null, .val (.ref wl), .val (.ref wp)] [(.ref wl), (.ref ad0)])) rfl rfl (hb hby own_d_prog_21_1_34)
  have N124 := Fr.snoc X124 N120 pg_ad0
  have F125 : Fld Z h124 ad0 own_c_101 "items" "Ljava/util/List;" (.ref wl) := Fld.same W124 F123
  refine own_st (fun u_ k_ => st124 u_ k_) ?_
  show own_Go p e below _ (T124.setTop (mkF m 37 #[.val (.ref ad0), .val (.ref w0), .val .null, .val (.double iv1), .second, .val .null, .val .null, .val (.ref wl), .val (.ref wp)] []))
  refine own_st (fun u_ k_ => XS.aloadN X124.here hx rfl (hb hby own_d_prog_21_1_37) rfl rfl k_) ?_
  refine own_st (fun u_ k_ => XS.aload X124.here hx rfl (hb hby own_d_prog_21_1_38) rfl rfl k_) ?_
  show own_Go p e below _ (T124.setTop (mkF m 40 #[.val (.ref ad0), .val (.ref w0), .val .null, .val (.double iv1), .second, .val .null, .val .null, .val (.ref wl), .val (.ref wp)] [(.ref wp), (.ref ad0)]))
  have F126 := (Exa.wr W124 F122)
  have F127 := (Fld.other W124 (Fld.other W120 (Fld.other W116 (Fld.other W112 (Fld.other W108 (Fld.other W104 pf3 (Or.inr (own_sn_241 hw))) (Or.inr (own_sn_243 hw))) (Or.inr (own_sn_245 hw))) (Or.inr (own_sn_247 hw))) (Or.inr (own_sn_249 hw))) (Or.inr (own_sn_251 hw)))
  obtain ⟨T128, h128, X128, e128, W128, st128⟩ := putF X124 hx hZ hown (host := "") (Or.inl (own_w hw 43 rfl)) Via.refl e124 F127 F126 (Or.inr ⟨(own_w hw 44 rfl), rfl, hnm⟩) (own_w hw 10 rfl) (ty := (.object "java/util/Map")) own_lm_165 rfl rfl (g := (mkF m 40 #[.val (.ref ad0), .val (.ref w0), .val .null, .val (.double iv1), .second, .val .null, .val .null, .val (.ref wl), .val (.ref wp)] [(.ref wp), (.ref ad0)])) rfl rfl (hb hby own_d_prog_21_1_40)
  have N128 := Fr.snoc X128 N124 pg_ad0
  have F129 : Fld Z h128 ad0 own_c_101 "entries" "Ljava/util/Map;" (.ref wp) := Fld.same W128 F127
  refine own_st (fun u_ k_ => st128 u_ k_) ?_
  show own_Go p e below _ (T128.setTop (mkF m 43 #[.val (.ref ad0), .val (.ref w0), .val .null, .val (.double iv1), .second, .val .null, .val .null, .val (.ref wl), .val (.ref wp)] []))
  have K130 : Keep h0 h104 [ad0] := (Keep.refl h0 [ad0]).wr W104 (Or.inl (List.mem_of_getElem? (i := 0) rfl))
  have K131 : Keep h0 h108 [ad0] := K130.wr W108 (Or.inl (List.mem_of_getElem? (i := 0) rfl))
  have K132 : Keep h0 h112 [ad0] := K131.wr W112 (Or.inl (List.mem_of_getElem? (i := 0) rfl))
  have K133 : Keep h0 h116 [ad0] := K132.wr W116 (Or.inl (List.mem_of_getElem? (i := 0) rfl))
  have K134 : Keep h0 h120 [ad0] := K133.wr W120 (Or.inl (List.mem_of_getElem? (i := 0) rfl))
  have K135 : Keep h0 h124 [ad0] := K134.wr W124 (Or.inl (List.mem_of_getElem? (i := 0) rfl))
  have K136 : Keep h0 h128 [ad0] := K135.wr W128 (Or.inl (List.mem_of_getElem? (i := 0) rfl))
  have F137 := (Exa.wr W128 F126)
  have F138 := (Fld.other W128 (Fld.other W124 (Fld.other W120 F117 (Or.inr (own_sn_254 hw))) (Or.inr (own_sn_256 hw))) (Or.inr (own_sn_258 hw)))
  have F139 := (Fld.other W128 (Fld.other W124 (Fld.other W120 (Fld.other W116 F113 (Or.inr (own_sn_260 hw))) (Or.inr (own_sn_262 hw))) (Or.inr (own_sn_264 hw))) (Or.inr (own_sn_266 hw)))
  have F140 := (Fld.other W128 F125 (Or.inr (own_sn_268 hw)))
  have F141 := (Fld.other W128 (Fld.other W124 (Fld.other W120 (Fld.other W116 (Fld.other W112 F109 (Or.inr (own_sn_270 hw))) (Or.inr (own_sn_272 hw))) (Or.inr (own_sn_274 hw))) (Or.inr (own_sn_276 hw))) (Or.inr (own_sn_278 hw)))
  have F142 := (Fld.other W128 (Fld.other W124 F121 (Or.inr (own_sn_280 hw))) (Or.inr (own_sn_282 hw)))
  have F143 := (Fld.other W128 (Fld.other W124 (Fld.other W120 (Fld.other W116 (Fld.other W112 (Fld.other W108 F105 (Or.inr (own_sn_284 hw))) (Or.inr (own_sn_286 hw))) (Or.inr (own_sn_288 hw))) (Or.inr (own_sn_290 hw))) (Or.inr (own_sn_292 hw))) (Or.inr (own_sn_294 hw)))
  exact own_retV X128 hx hlk hret (hb hby own_d_prog_21_1_43) (by decide) (by decide) (show QrmU4 Z w0 wl wp mr ad0 iv1 h0 n0 none T128.heap _ from (by rw [e128]; exact ⟨rfl, N128, K136, F137, F138, F129, F139, F140, F141, F142, F143⟩))
theorem own_pd_296 : parseMethodDescriptor "(Lcom/example/tasdik/tasdik/core/cbor/CborValue$Type;Ljava/math/BigInteger;D[BLjava/lang/String;Ljava/util/List;Ljava/util/Map;)V" = some ⟨[(.object "com/example/tasdik/tasdik/core/cbor/CborValue$Type"), (.object "java/math/BigInteger"), .double, (.array .byte), (.object "java/lang/String"), (.object "java/util/List"), (.object "java/util/Map")], none⟩ := by decide +kernel
theorem own_d_prog_21_10_20 : decode prog_21_method_10_code 20 = .ok (.areturn, 1) := by decide +kernel
abbrev own_y_298 : MethodName := ⟨"com/example/tasdik/tasdik/core/cbor/CborValue", "floating", "(D)Lcom/example/tasdik/tasdik/core/cbor/CborValue;"⟩
theorem own_ef_rmU5 (m : MethodId) (iv0 : UInt64)  : entryFrame m #[(.double iv0)] 2 = mkF m 0 #[.val (.double iv0), .second] [] := by first | (simp [entryFrame, mkF, argsToLocals, Value.category, maxLocals]; done) | rfl
def QrmU5 (Z : State) (w0 wl wp mr : Addr) (iv0 : UInt64) (h0 : Heap) (n0 : Nat) (v : Option Value) (h : Heap) (L : List Loc) : Prop := ∃ nz0 : Addr, v = some (.ref nz0) ∧ Fr n0 L ∧ Keep h0 h [] ∧ h0.size ≤ nz0 ∧ Exa Z h nz0 own_c_101 ∧ Fld Z h nz0 own_c_101 "bytes" "[B" .null ∧ Fld Z h nz0 own_c_101 "entries" "Ljava/util/Map;" (.ref wp) ∧ Fld Z h nz0 own_c_101 "floatValue" "D" (.double iv0) ∧ Fld Z h nz0 own_c_101 "items" "Ljava/util/List;" (.ref wl) ∧ Fld Z h nz0 own_c_101 "number" own_c_159 .null ∧ Fld Z h nz0 own_c_101 "text" "Ljava/lang/String;" .null ∧ Fld Z h nz0 own_c_101 "type" own_c_102 (.ref w0)
set_option maxRecDepth 65536 in
set_option maxHeartbeats 40000000 in
theorem rmU5 (l : Launch) (Z : State) (a0 : Array Value) (hw : own_H a0 Z) (ws : List Jvm.Cond) (w0 wl wp mr : Addr) (hS : own_S Z w0 wl wp mr) (iv0 : UInt64) (h0 : Heap) (n0 : Nat) (O0 : Old Z n0 h0)  :
    own_Met l own_y_298 prog_21_method_10_code 2 (some (.object "com/example/tasdik/tasdik/core/cbor/CborValue")) ws ({ frames := 2, cells := 1, slots := 7, locals := 33 } : Room) Z h0 #[(.double iv0)] (QrmU5 Z w0 wl wp mr iv0 h0 n0) := by
  refine own_body (plainFor_of_name own_pn_100) ?_
  intro p e s m below meth c s₁ hx hby hml hown hnm hret hlk hZ e0 X0
  have N0 := Fr.nil n0
  refine own_st (fun u_ k_ => castTop (own_ef_rmU5 m iv0) k_) ?_
  show own_Go p e below _ (s₁.setTop (mkF m 0 #[.val (.double iv0), .second] []))
  obtain ⟨T154, h154, X154, e154, E154, A154, D154, U154, st154⟩ := newO X0 hx hZ hown (own_w hw 9 rfl) (own_w hw 10 rfl) (own_w hw 7 rfl) e0 (g := (mkF m 0 #[.val (.double iv0), .second] [])) rfl (hb hby own_d_prog_21_10_0) (by decide) (by decide)
  obtain ⟨b154, g154⟩ : ∃ z, z = h0.size := ⟨_, rfl⟩
  rw [← g154] at A154 D154 U154 st154
  have F154_type : Fld Z h154 b154 own_c_101 "type" own_c_102 .null := D154 (Or.inr (own_w hw 32 rfl)) (ty := (.object "com/example/tasdik/tasdik/core/cbor/CborValue$Type")) own_lm_158
  have F154_number : Fld Z h154 b154 own_c_101 "number" own_c_159 .null := D154 (Or.inr (own_w hw 34 rfl)) (ty := (.object "java/math/BigInteger")) own_lm_160
  have F154_floatValue : Fld Z h154 b154 own_c_101 "floatValue" "D" (.double (0 : UInt64)) := D154 (Or.inr (own_w hw 36 rfl)) (ty := .double) own_lm_161
  have F154_bytes : Fld Z h154 b154 own_c_101 "bytes" "[B" .null := D154 (Or.inr (own_w hw 38 rfl)) (ty := (.array .byte)) own_lm_162
  have F154_text : Fld Z h154 b154 own_c_101 "text" "Ljava/lang/String;" .null := D154 (Or.inr (own_w hw 40 rfl)) (ty := (.object "java/lang/String")) own_lm_163
  have F154_items : Fld Z h154 b154 own_c_101 "items" "Ljava/util/List;" .null := D154 (Or.inr (own_w hw 42 rfl)) (ty := (.object "java/util/List")) own_lm_164
  have F154_entries : Fld Z h154 b154 own_c_101 "entries" "Ljava/util/Map;" .null := D154 (Or.inr (own_w hw 44 rfl)) (ty := (.object "java/util/Map")) own_lm_165
  refine own_st (fun u_ k_ => st154 u_ k_) ?_
  show own_Go p e below _ (T154.setTop (mkF m 3 #[.val (.double iv0), .second] [(.ref b154)]))
  refine own_st (fun u_ k_ => XS.dup X154.here hx rfl (hb hby own_d_prog_21_10_3) rfl rfl k_) ?_
  have O155 : Old Z n0 h154 := O0.ext E154
  have F156 := Sta.ext O155.2 hS.1
  obtain ⟨T157, X157, e157, st157⟩ := getS2 X154 hx hZ hown (host := "") (Or.inl (own_w hw 11 rfl)) Via.refl e154 F156 (g := (mkF m 4 #[.val (.double iv0), .second] [(.ref b154), (.ref b154)])) rfl (hb hby own_d_prog_21_10_4)
  refine own_st (fun u_ k_ => st157 u_ k_) ?_
  show own_Go p e below _ (T157.setTop (mkF m 7 #[.val (.double iv0), .second] [(.ref w0), (.ref b154), (.ref b154)]))
  refine own_st (fun u_ k_ => XS.aconstNull X157.here hx rfl (hb hby own_d_prog_21_10_7) k_) ?_
  refine own_st (fun u_ k_ => XS.dloadN X157.here hx rfl (hb hby own_d_prog_21_10_8) rfl k_) ?_
  show own_Go p e below _ (T157.setTop (mkF m 9 #[.val (.double iv0), .second] [(.double iv0), .null, (.ref w0), (.ref b154), (.ref b154)]))
  refine own_st (fun u_ k_ => XS.aconstNull X157.here hx rfl (hb hby own_d_prog_21_10_9) k_) ?_
  refine own_st (fun u_ k_ => XS.aconstNull X157.here hx rfl (hb hby own_d_prog_21_10_10) k_) ?_
  show own_Go p e below _ (T157.setTop (mkF m 11 #[.val (.double iv0), .second] [.null, .null, (.double iv0), .null, (.ref w0), (.ref b154), (.ref b154)]))
  obtain ⟨T158, v158, L158, X158, hQ158, st158⟩ := own_callS X157 hx hZ (y := own_y_175) hown (own_w hw 14 rfl) (own_w hw 15 rfl) (own_w hw 16 rfl) (own_w hw 17 rfl) own_lm_177 (rmU2 l Z a0 hw [] w0 wl wp mr hS  h154 n0 O155 ) e157 own_pd_178 (argsL := []) (rest := [.null, .null, (.double iv0), .null, (.ref w0), (.ref b154), (.ref b154)]) rfl rfl (g := (mkF m 11 #[.val (.double iv0), .second] [.null, .null, (.double iv0), .null, (.ref w0), (.ref b154), (.ref b154)])) rfl (by rw [hml]; rfl) rfl (hb hby own_d_prog_21_10_11) (W := 8) rfl (by decide) (by decide) (by decide) (by decide)
  obtain ⟨rfl, M158, e158⟩ := hQ158
  have N158 := Fr.app N0 M158
  refine own_st (fun u_ k_ => st158 u_ k_) ?_
  show own_Go p e below _ (T158.setTop (mkF m 14 #[.val (.double iv0), .second] [(.ref wl), .null, .null, (.double iv0), .null, (.ref w0), (.ref b154), (.ref b154)]))
  obtain ⟨T159, v159, L159, X159, hQ159, st159⟩ := own_callS X158 hx hZ (y := own_y_182) hown (own_w hw 20 rfl) (own_w hw 21 rfl) (own_w hw 22 rfl) (own_w hw 23 rfl) own_lm_184 (rmU3 l Z a0 hw [] w0 wl wp mr hS  h154 n0 O155 ) e158 own_pd_185 (argsL := []) (rest := [(.ref wl), .null, .null, (.double iv0), .null, (.ref w0), (.ref b154), (.ref b154)]) rfl rfl (g := (mkF m 14 #[.val (.double iv0), .second] [(.ref wl), .null, .null, (.double iv0), .null, (.ref w0), (.ref b154), (.ref b154)])) rfl (by rw [hml]; rfl) rfl (hb hby own_d_prog_21_10_14) (W := 9) rfl (by decide) (by decide) (by decide) (by decide)
  obtain ⟨rfl, M159, e159⟩ := hQ159
  have N159 := Fr.app N158 M159
  refine own_st (fun u_ k_ => st159 u_ k_) ?_
  show own_Go p e below _ (T159.setTop (mkF m 17 #[.val (.double iv0), .second] [(.ref wp), (.ref wl), .null, .null, (.double iv0), .null, (.ref w0), (.ref b154), (.ref b154)]))
  have g160 : n0 ≤ b154 := Nat.le_trans (own_nl O0) (Nat.le_of_eq g154.symm)
  obtain ⟨T161, v161, L161, X161, hQ161, st161⟩ := own_callN X159 hx hZ (y := own_y_295) rfl hown (own_w hw 25 rfl) (own_w hw 26 rfl) (own_w hw 7 rfl) (own_w hw 27 rfl) own_lm_112 (rmU4 l Z a0 hw [] w0 wl wp mr hS b154 iv0 h154 n0 O155 A154 F154_bytes F154_entries F154_floatValue F154_items F154_number F154_text F154_type g160) e159 own_pd_296 (a := b154) (argsL := [(.ref w0), .null, (.double iv0), .null, .null, (.ref wl), (.ref wp)]) (rest := [(.ref b154)]) rfl rfl (g := (mkF m 17 #[.val (.double iv0), .second] [(.ref wp), (.ref wl), .null, .null, (.double iv0), .null, (.ref w0), (.ref b154), (.ref b154)])) rfl (by rw [hml]; rfl) rfl (hb hby own_d_prog_21_10_17) (W := 1) rfl (by decide) (by decide) (by decide) (by decide)
  obtain ⟨rfl, M161, K161, F162, F163, F164, F165, F166, F167, F168, F169⟩ := hQ161
  have N161 := Fr.app N159 M161
  refine own_st (fun u_ k_ => st161 u_ k_) ?_
  show own_Go p e below _ (T161.setTop (mkF m 20 #[.val (.double iv0), .second] [(.ref b154)]))
  have K170 : Keep h0 h154 [] := (Keep.refl h0 []).ext E154
  have z172 : h0.size ≤ b154 := Nat.le_trans (Nat.le_refl _) (Nat.le_of_eq g154.symm)
  have K171 : Keep h0 T161.heap [] := K170.trans K161 (allS (Or.inr z172) all0)
  exact own_retX X161 hx hlk hret rfl (Or.inr (Or.inr (Or.inr (Or.inr ⟨rfl, rfl, rfl⟩)))) (hb hby own_d_prog_21_10_20) (by decide) (by decide) (show QrmU5 Z w0 wl wp mr iv0 h0 n0 (some (.ref b154)) T161.heap _ from (by exact ⟨b154, rfl, N161, K171, z172, F162, F163, F164, F165, F166, F167, F168, F169⟩))
theorem own_pd_299 : parseMethodDescriptor "(D)Lcom/example/tasdik/tasdik/core/cbor/CborValue;" = some ⟨[.double], some (.object "com/example/tasdik/tasdik/core/cbor/CborValue")⟩ := by decide +kernel
theorem own_pd_300 : parseMethodDescriptor "(IZZ)J" = some ⟨[.int, .boolean, .boolean], some .long⟩ := by decide +kernel
theorem own_d_prog_21_11_0 : decode prog_21_method_11_code 0 = .ok (.aload_n 0, 1) := by decide +kernel
theorem own_d_prog_21_11_1 : decode prog_21_method_11_code 1 = .ok (.getfield 7, 3) := by decide +kernel
theorem own_d_prog_21_11_4 : decode prog_21_method_11_code 4 = .ok (.areturn, 1) := by decide +kernel
abbrev own_y_304 : MethodName := ⟨"com/example/tasdik/tasdik/core/cbor/CborValue", "type", "()Lcom/example/tasdik/tasdik/core/cbor/CborValue$Type;"⟩
theorem own_ef_rmU6 (m : MethodId) (ad0 : Addr)  : entryFrame m #[(.ref ad0)] 1 = mkF m 0 #[.val (.ref ad0)] [] := by first | (simp [entryFrame, mkF, argsToLocals, Value.category, maxLocals]; done) | rfl
def QrmU6 (Z : State) (w0 wl wp mr : Addr) (ad0 : Addr) (h0 : Heap) (n0 : Nat) (v : Option Value) (h : Heap) (L : List Loc) : Prop := v = some (.ref w0) ∧ Fr n0 L ∧ h = h0
set_option maxRecDepth 65536 in
set_option maxHeartbeats 40000000 in
theorem rmU6 (l : Launch) (Z : State) (a0 : Array Value) (hw : own_H a0 Z) (ws : List Jvm.Cond) (w0 wl wp mr : Addr) (hS : own_S Z w0 wl wp mr) (ad0 : Addr) (h0 : Heap) (n0 : Nat) (O0 : Old Z n0 h0) (pf8 : Fld Z h0 ad0 own_c_101 "type" own_c_102 (.ref w0)) :
    own_Met l own_y_304 prog_21_method_11_code 1 (some (.object "com/example/tasdik/tasdik/core/cbor/CborValue$Type")) ws ({ frames := 0, cells := 0, slots := 0, locals := 0 } : Room) Z h0 #[(.ref ad0)] (QrmU6 Z w0 wl wp mr ad0 h0 n0) := by
  refine own_body (plainFor_of_name own_pn_100) ?_
  intro p e s m below meth c s₁ hx hby hml hown hnm hret hlk hZ e0 X0
  have N0 := Fr.nil n0
  refine own_st (fun u_ k_ => castTop (own_ef_rmU6 m ad0) k_) ?_
  show own_Go p e below _ (s₁.setTop (mkF m 0 #[.val (.ref ad0)] []))
  refine own_st (fun u_ k_ => XS.aloadN X0.here hx rfl (hb hby own_d_prog_21_11_0) rfl rfl k_) ?_
  obtain ⟨T206, X206, e206, st206⟩ := getF X0 hx hZ hown (host := "") (Or.inl (own_w hw 31 rfl)) Via.refl e0 pf8 (g := (mkF m 1 #[.val (.ref ad0)] [(.ref ad0)])) rfl rfl (hb hby own_d_prog_21_11_1)
  refine own_st (fun u_ k_ => st206 u_ k_) ?_
  show own_Go p e below _ (T206.setTop (mkF m 4 #[.val (.ref ad0)] [(.ref w0)]))
  exact own_retX X206 hx hlk hret rfl (Or.inr (Or.inr (Or.inr (Or.inr ⟨rfl, rfl, rfl⟩)))) (hb hby own_d_prog_21_11_4) (by decide) (by decide) (show QrmU6 Z w0 wl wp mr ad0 h0 n0 (some (.ref w0)) T206.heap _ from (by rw [e206]; exact ⟨rfl, N0, rfl⟩))
theorem own_pd_305 : parseMethodDescriptor "()Lcom/example/tasdik/tasdik/core/cbor/CborValue$Type;" = some ⟨[], some (.object "com/example/tasdik/tasdik/core/cbor/CborValue$Type")⟩ := by decide +kernel
theorem own_pd_306 : parseMethodDescriptor "(Ljava/lang/Object;)Z" = some ⟨[(.object "java/lang/Object")], some .boolean⟩ := by decide +kernel
-- the law itself
theorem own_ef_rm0 (m : MethodId) (ia : Int32) (ib : Int32) (fl : Int32)  : entryFrame m #[(.int ia), (.int ib), (.int fl)] maxLocals = mkF m 0 #[.val (.int ia), .val (.int ib), .val (.int fl), .unset, .unset, .unset, .unset, .unset, .unset, .unset, .unset, .unset, .unset, .unset, .unset, .unset, .unset, .unset, .unset, .unset, .unset, .unset] [] := by first | (simp [entryFrame, mkF, argsToLocals, Value.category, maxLocals]; done) | rfl
def Qrm0 (Z : State) (w0 wl wp mr : Addr) (ia : Int32) (ib : Int32) (fl : Int32) (h0 : Heap) (n0 : Nat) (v : Option Value) (h : Heap) (L : List Loc) : Prop := v = some (.int (1 : Int32)) ∧ Fr n0 L ∧ Keep h0 h []
set_option maxRecDepth 65536 in
set_option maxHeartbeats 40000000 in
theorem rm0 (l : Launch) (Z : State) (a0 : Array Value) (hw : own_H a0 Z) (ws : List Jvm.Cond) (w0 wl wp mr : Addr) (hS : own_S Z w0 wl wp mr) (ia : Int32) (ib : Int32) (fl : Int32) (h0 : Heap) (n0 : Nat) (O0 : Old Z n0 h0)  :
    own_Met l x code maxLocals ret ws room_1 Z h0 #[(.int ia), (.int ib), (.int fl)] (Qrm0 Z w0 wl wp mr ia ib fl h0 n0) := by
  refine own_body (plainFor_of_name own_pn_137) ?_
  intro p e s m below meth c s₁ hx hby hml hown hnm hret hlk hZ e0 X0
  have N0 := Fr.nil n0
  refine own_st (fun u_ k_ => castTop (own_ef_rm0 m ia ib fl) k_) ?_
  show own_Go p e below _ (s₁.setTop (mkF m 0 #[.val (.int ia), .val (.int ib), .val (.int fl), .unset, .unset, .unset, .unset, .unset, .unset, .unset, .unset, .unset, .unset, .unset, .unset, .unset, .unset, .unset, .unset, .unset, .unset, .unset] []))
  refine own_join (A := fun z : Int32 => True) (U := fun z : Int32 => (s₁.setTop (mkF m 11 #[.val (.int ia), .val (.int ib), .val (.int fl), .unset, .unset, .unset, .unset, .unset, .unset, .unset, .unset, .unset, .unset, .unset, .unset, .unset, .unset, .unset, .unset, .unset, .unset, .unset] [(.int z)]))) ?_ ?_
  · intro zj48 hzj48
    show own_Go p e below _ (s₁.setTop (mkF m 11 #[.val (.int ia), .val (.int ib), .val (.int fl), .unset, .unset, .unset, .unset, .unset, .unset, .unset, .unset, .unset, .unset, .unset, .unset, .unset, .unset, .unset, .unset, .unset, .unset, .unset] [(.int zj48)]))
    refine own_st (fun u_ k_ => XS.istoreN X0.here hx rfl (hb hby at_11) rfl (l' := #[.val (.int ia), .val (.int ib), .val (.int fl), .val (.int zj48), .unset, .unset, .unset, .unset, .unset, .unset, .unset, .unset, .unset, .unset, .unset, .unset, .unset, .unset, .unset, .unset, .unset, .unset]) rfl k_) ?_
    refine own_join (A := fun z : Int32 => True) (U := fun z : Int32 => (s₁.setTop (mkF m 23 #[.val (.int ia), .val (.int ib), .val (.int fl), .val (.int zj48), .unset, .unset, .unset, .unset, .unset, .unset, .unset, .unset, .unset, .unset, .unset, .unset, .unset, .unset, .unset, .unset, .unset, .unset] [(.int z)]))) ?_ ?_
    · intro zj50 hzj50
      show own_Go p e below _ (s₁.setTop (mkF m 23 #[.val (.int ia), .val (.int ib), .val (.int fl), .val (.int zj48), .unset, .unset, .unset, .unset, .unset, .unset, .unset, .unset, .unset, .unset, .unset, .unset, .unset, .unset, .unset, .unset, .unset, .unset] [(.int zj50)]))
      refine own_st (fun u_ k_ => XS.istore X0.here hx rfl (hb hby at_23) rfl (l' := #[.val (.int ia), .val (.int ib), .val (.int fl), .val (.int zj48), .val (.int zj50), .unset, .unset, .unset, .unset, .unset, .unset, .unset, .unset, .unset, .unset, .unset, .unset, .unset, .unset, .unset, .unset, .unset]) rfl k_) ?_
      show own_Go p e below _ (s₁.setTop (mkF m 25 #[.val (.int ia), .val (.int ib), .val (.int fl), .val (.int zj48), .val (.int zj50), .unset, .unset, .unset, .unset, .unset, .unset, .unset, .unset, .unset, .unset, .unset, .unset, .unset, .unset, .unset, .unset, .unset] []))
      refine own_join (A := fun z : Int32 => True) (U := fun z : Int32 => (s₁.setTop (mkF m 36 #[.val (.int ia), .val (.int ib), .val (.int fl), .val (.int zj48), .val (.int zj50), .unset, .unset, .unset, .unset, .unset, .unset, .unset, .unset, .unset, .unset, .unset, .unset, .unset, .unset, .unset, .unset, .unset] [(.int z)]))) ?_ ?_
      · intro zj52 hzj52
        show own_Go p e below _ (s₁.setTop (mkF m 36 #[.val (.int ia), .val (.int ib), .val (.int fl), .val (.int zj48), .val (.int zj50), .unset, .unset, .unset, .unset, .unset, .unset, .unset, .unset, .unset, .unset, .unset, .unset, .unset, .unset, .unset, .unset, .unset] [(.int zj52)]))
        refine own_st (fun u_ k_ => XS.istore X0.here hx rfl (hb hby at_36) rfl (l' := #[.val (.int ia), .val (.int ib), .val (.int fl), .val (.int zj48), .val (.int zj50), .val (.int zj52), .unset, .unset, .unset, .unset, .unset, .unset, .unset, .unset, .unset, .unset, .unset, .unset, .unset, .unset, .unset, .unset]) rfl k_) ?_
        refine own_join (A := fun z : Int32 => True) (U := fun z : Int32 => (s₁.setTop (mkF m 50 #[.val (.int ia), .val (.int ib), .val (.int fl), .val (.int zj48), .val (.int zj50), .val (.int zj52), .unset, .unset, .unset, .unset, .unset, .unset, .unset, .unset, .unset, .unset, .unset, .unset, .unset, .unset, .unset, .unset] [(.int z)]))) ?_ ?_
        · intro zj54 hzj54
          show own_Go p e below _ (s₁.setTop (mkF m 50 #[.val (.int ia), .val (.int ib), .val (.int fl), .val (.int zj48), .val (.int zj50), .val (.int zj52), .unset, .unset, .unset, .unset, .unset, .unset, .unset, .unset, .unset, .unset, .unset, .unset, .unset, .unset, .unset, .unset] [(.int zj54)]))
          refine own_st (fun u_ k_ => XS.istore X0.here hx rfl (hb hby at_50) rfl (l' := #[.val (.int ia), .val (.int ib), .val (.int fl), .val (.int zj48), .val (.int zj50), .val (.int zj52), .val (.int zj54), .unset, .unset, .unset, .unset, .unset, .unset, .unset, .unset, .unset, .unset, .unset, .unset, .unset, .unset, .unset]) rfl k_) ?_
          show own_Go p e below _ (s₁.setTop (mkF m 52 #[.val (.int ia), .val (.int ib), .val (.int fl), .val (.int zj48), .val (.int zj50), .val (.int zj52), .val (.int zj54), .unset, .unset, .unset, .unset, .unset, .unset, .unset, .unset, .unset, .unset, .unset, .unset, .unset, .unset, .unset] []))
          refine own_join (A := fun z : Int32 => True) (U := fun z : Int32 => (s₁.setTop (mkF m 64 #[.val (.int ia), .val (.int ib), .val (.int fl), .val (.int zj48), .val (.int zj50), .val (.int zj52), .val (.int zj54), .unset, .unset, .unset, .unset, .unset, .unset, .unset, .unset, .unset, .unset, .unset, .unset, .unset, .unset, .unset] [(.int z)]))) ?_ ?_
          · intro zj56 hzj56
            show own_Go p e below _ (s₁.setTop (mkF m 64 #[.val (.int ia), .val (.int ib), .val (.int fl), .val (.int zj48), .val (.int zj50), .val (.int zj52), .val (.int zj54), .unset, .unset, .unset, .unset, .unset, .unset, .unset, .unset, .unset, .unset, .unset, .unset, .unset, .unset, .unset] [(.int zj56)]))
            refine own_st (fun u_ k_ => XS.istore X0.here hx rfl (hb hby at_64) rfl (l' := #[.val (.int ia), .val (.int ib), .val (.int fl), .val (.int zj48), .val (.int zj50), .val (.int zj52), .val (.int zj54), .val (.int zj56), .unset, .unset, .unset, .unset, .unset, .unset, .unset, .unset, .unset, .unset, .unset, .unset, .unset, .unset]) rfl k_) ?_
            refine own_join (A := fun z : Int32 => True) (U := fun z : Int32 => (s₁.setTop (mkF m 76 #[.val (.int ia), .val (.int ib), .val (.int fl), .val (.int zj48), .val (.int zj50), .val (.int zj52), .val (.int zj54), .val (.int zj56), .unset, .unset, .unset, .unset, .unset, .unset, .unset, .unset, .unset, .unset, .unset, .unset, .unset, .unset] [(.int z)]))) ?_ ?_
            · intro zj58 hzj58
              show own_Go p e below _ (s₁.setTop (mkF m 76 #[.val (.int ia), .val (.int ib), .val (.int fl), .val (.int zj48), .val (.int zj50), .val (.int zj52), .val (.int zj54), .val (.int zj56), .unset, .unset, .unset, .unset, .unset, .unset, .unset, .unset, .unset, .unset, .unset, .unset, .unset, .unset] [(.int zj58)]))
              refine own_st (fun u_ k_ => XS.istore X0.here hx rfl (hb hby at_76) rfl (l' := #[.val (.int ia), .val (.int ib), .val (.int fl), .val (.int zj48), .val (.int zj50), .val (.int zj52), .val (.int zj54), .val (.int zj56), .val (.int zj58), .unset, .unset, .unset, .unset, .unset, .unset, .unset, .unset, .unset, .unset, .unset, .unset, .unset]) rfl k_) ?_
              show own_Go p e below _ (s₁.setTop (mkF m 78 #[.val (.int ia), .val (.int ib), .val (.int fl), .val (.int zj48), .val (.int zj50), .val (.int zj52), .val (.int zj54), .val (.int zj56), .val (.int zj58), .unset, .unset, .unset, .unset, .unset, .unset, .unset, .unset, .unset, .unset, .unset, .unset, .unset] []))
              refine own_st (fun u_ k_ => XS.iloadN X0.here hx rfl (hb hby at_78) rfl k_) ?_
              refine own_st (fun u_ k_ => XS.iloadN X0.here hx rfl (hb hby at_79) rfl k_) ?_
              show own_Go p e below _ (s₁.setTop (mkF m 80 #[.val (.int ia), .val (.int ib), .val (.int fl), .val (.int zj48), .val (.int zj50), .val (.int zj52), .val (.int zj54), .val (.int zj56), .val (.int zj58), .unset, .unset, .unset, .unset, .unset, .unset, .unset, .unset, .unset, .unset, .unset, .unset, .unset] [(.int zj48), (.int ia)]))
              refine own_st (fun u_ k_ => XS.iload X0.here hx rfl (hb hby at_80) rfl k_) ?_
              obtain ⟨T60, v60, L60, X60, hQ60, st60⟩ := own_callS X0 hx hZ (y := own_y_136) hown (own_w hw 0 rfl) (own_w hw 1 rfl) (own_w hw 2 rfl) (own_w hw 3 rfl) own_lm_155 (rmMk l Z a0 hw [] w0 wl wp mr hS ia zj48 zj50 h0 n0 O0 ) e0 own_pd_156 (argsL := [(.int ia), (.int zj48), (.int zj50)]) (rest := []) rfl rfl (g := (mkF m 82 #[.val (.int ia), .val (.int ib), .val (.int fl), .val (.int zj48), .val (.int zj50), .val (.int zj52), .val (.int zj54), .val (.int zj56), .val (.int zj58), .unset, .unset, .unset, .unset, .unset, .unset, .unset, .unset, .unset, .unset, .unset, .unset, .unset] [(.int zj50), (.int zj48), (.int ia)])) rfl (by rw [hml]; rfl) rfl (hb hby at_82) (W := 0) rfl (by decide) (by decide) (by decide) (by decide)
              obtain ⟨rfl, M60, e60⟩ := hQ60
              have N60 := Fr.app N0 M60
              refine own_st (fun u_ k_ => st60 u_ k_) ?_
              show own_Go p e below _ (T60.setTop (mkF m 85 #[.val (.int ia), .val (.int ib), .val (.int fl), .val (.int zj48), .val (.int zj50), .val (.int zj52), .val (.int zj54), .val (.int zj56), .val (.int zj58), .unset, .unset, .unset, .unset, .unset, .unset, .unset, .unset, .unset, .unset, .unset, .unset, .unset] [(.double (own_mk ia zj48 zj50))]))
              refine own_st (fun u_ k_ => XS.dstore X60.here hx rfl (hb hby at_85) rfl (l' := #[.val (.int ia), .val (.int ib), .val (.int fl), .val (.int zj48), .val (.int zj50), .val (.int zj52), .val (.int zj54), .val (.int zj56), .val (.int zj58), .val (.double (own_mk ia zj48 zj50)), .second, .unset, .unset, .unset, .unset, .unset, .unset, .unset, .unset, .unset, .unset, .unset]) rfl k_) ?_
              refine own_st (fun u_ k_ => XS.iload X60.here hx rfl (hb hby at_87) rfl k_) ?_
              show own_Go p e below _ (T60.setTop (mkF m 89 #[.val (.int ia), .val (.int ib), .val (.int fl), .val (.int zj48), .val (.int zj50), .val (.int zj52), .val (.int zj54), .val (.int zj56), .val (.int zj58), .val (.double (own_mk ia zj48 zj50)), .second, .unset, .unset, .unset, .unset, .unset, .unset, .unset, .unset, .unset, .unset, .unset] [(.int zj58)]))
              refine own_st (fun u_ k_ => XS.iload X60.here hx rfl (hb hby at_89) rfl k_) ?_
              refine own_st (fun u_ k_ => XS.iload X60.here hx rfl (hb hby at_91) rfl k_) ?_
              show own_Go p e below _ (T60.setTop (mkF m 93 #[.val (.int ia), .val (.int ib), .val (.int fl), .val (.int zj48), .val (.int zj50), .val (.int zj52), .val (.int zj54), .val (.int zj56), .val (.int zj58), .val (.double (own_mk ia zj48 zj50)), .second, .unset, .unset, .unset, .unset, .unset, .unset, .unset, .unset, .unset, .unset, .unset] [(.int zj54), (.int zj52), (.int zj58)]))
              obtain ⟨T61, v61, L61, X61, hQ61, st61⟩ := own_callS X60 hx hZ (y := own_y_136) hown (own_w hw 0 rfl) (own_w hw 1 rfl) (own_w hw 2 rfl) (own_w hw 3 rfl) own_lm_155 (rmMk l Z a0 hw [] w0 wl wp mr hS zj58 zj52 zj54 h0 n0 O0 ) e60 own_pd_156 (argsL := [(.int zj58), (.int zj52), (.int zj54)]) (rest := []) rfl rfl (g := (mkF m 93 #[.val (.int ia), .val (.int ib), .val (.int fl), .val (.int zj48), .val (.int zj50), .val (.int zj52), .val (.int zj54), .val (.int zj56), .val (.int zj58), .val (.double (own_mk ia zj48 zj50)), .second, .unset, .unset, .unset, .unset, .unset, .unset, .unset, .unset, .unset, .unset, .unset] [(.int zj54), (.int zj52), (.int zj58)])) rfl (by rw [hml]; rfl) rfl (hb hby at_93) (W := 0) rfl (by decide) (by decide) (by decide) (by decide)
              obtain ⟨rfl, M61, e61⟩ := hQ61
              have N61 := Fr.app N60 M61
              refine own_st (fun u_ k_ => st61 u_ k_) ?_
              show own_Go p e below _ (T61.setTop (mkF m 96 #[.val (.int ia), .val (.int ib), .val (.int fl), .val (.int zj48), .val (.int zj50), .val (.int zj52), .val (.int zj54), .val (.int zj56), .val (.int zj58), .val (.double (own_mk ia zj48 zj50)), .second, .unset, .unset, .unset, .unset, .unset, .unset, .unset, .unset, .unset, .unset, .unset] [(.double (own_mk zj58 zj52 zj54))]))
              refine own_st (fun u_ k_ => XS.dstore X61.here hx rfl (hb hby at_96) rfl (l' := #[.val (.int ia), .val (.int ib), .val (.int fl), .val (.int zj48), .val (.int zj50), .val (.int zj52), .val (.int zj54), .val (.int zj56), .val (.int zj58), .val (.double (own_mk ia zj48 zj50)), .second, .val (.double (own_mk zj58 zj52 zj54)), .second, .unset, .unset, .unset, .unset, .unset, .unset, .unset, .unset, .unset]) rfl k_) ?_
              refine own_st (fun u_ k_ => XS.dload X61.here hx rfl (hb hby at_98) rfl k_) ?_
              show own_Go p e below _ (T61.setTop (mkF m 100 #[.val (.int ia), .val (.int ib), .val (.int fl), .val (.int zj48), .val (.int zj50), .val (.int zj52), .val (.int zj54), .val (.int zj56), .val (.int zj58), .val (.double (own_mk ia zj48 zj50)), .second, .val (.double (own_mk zj58 zj52 zj54)), .second, .unset, .unset, .unset, .unset, .unset, .unset, .unset, .unset, .unset] [(.double (own_mk ia zj48 zj50))]))
              obtain ⟨T173, v173, L173, X173, hQ173, st173⟩ := own_callS X61 hx hZ (y := own_y_298) hown (own_w hw 5 rfl) (own_w hw 6 rfl) (own_w hw 7 rfl) (own_w hw 8 rfl) own_lm_112 (rmU5 l Z a0 hw [] w0 wl wp mr hS (own_mk ia zj48 zj50) h0 n0 O0 ) e61 own_pd_299 (argsL := [(.double (own_mk ia zj48 zj50))]) (rest := []) rfl rfl (g := (mkF m 100 #[.val (.int ia), .val (.int ib), .val (.int fl), .val (.int zj48), .val (.int zj50), .val (.int zj52), .val (.int zj54), .val (.int zj56), .val (.int zj58), .val (.double (own_mk ia zj48 zj50)), .second, .val (.double (own_mk zj58 zj52 zj54)), .second, .unset, .unset, .unset, .unset, .unset, .unset, .unset, .unset, .unset] [(.double (own_mk ia zj48 zj50))])) rfl (by rw [hml]; rfl) rfl (hb hby at_100) (W := 0) rfl (by decide) (by decide) (by decide) (by decide)
              obtain ⟨nz0_174, rfl, M173, K173, z175, F176, F177, F178, F179, F180, F181, F182, F183⟩ := hQ173
              have N173 := Fr.app N61 M173
              refine own_st (fun u_ k_ => st173 u_ k_) ?_
              show own_Go p e below _ (T173.setTop (mkF m 103 #[.val (.int ia), .val (.int ib), .val (.int fl), .val (.int zj48), .val (.int zj50), .val (.int zj52), .val (.int zj54), .val (.int zj56), .val (.int zj58), .val (.double (own_mk ia zj48 zj50)), .second, .val (.double (own_mk zj58 zj52 zj54)), .second, .unset, .unset, .unset, .unset, .unset, .unset, .unset, .unset, .unset] [(.ref nz0_174)]))
              refine own_st (fun u_ k_ => XS.astore X173.here hx rfl (hb hby at_103) rfl rfl (l' := #[.val (.int ia), .val (.int ib), .val (.int fl), .val (.int zj48), .val (.int zj50), .val (.int zj52), .val (.int zj54), .val (.int zj56), .val (.int zj58), .val (.double (own_mk ia zj48 zj50)), .second, .val (.double (own_mk zj58 zj52 zj54)), .second, .val (.ref nz0_174), .unset, .unset, .unset, .unset, .unset, .unset, .unset, .unset]) rfl k_) ?_
              refine own_st (fun u_ k_ => XS.dload X173.here hx rfl (hb hby at_105) rfl k_) ?_
              show own_Go p e below _ (T173.setTop (mkF m 107 #[.val (.int ia), .val (.int ib), .val (.int fl), .val (.int zj48), .val (.int zj50), .val (.int zj52), .val (.int zj54), .val (.int zj56), .val (.int zj58), .val (.double (own_mk ia zj48 zj50)), .second, .val (.double (own_mk zj58 zj52 zj54)), .second, .val (.ref nz0_174), .unset, .unset, .unset, .unset, .unset, .unset, .unset, .unset] [(.double (own_mk zj58 zj52 zj54))]))
              have O185 : Old Z n0 T173.heap := O0.keep K173 all0
              obtain ⟨T184, v184, L184, X184, hQ184, st184⟩ := own_callS X173 hx hZ (y := own_y_298) hown (own_w hw 5 rfl) (own_w hw 6 rfl) (own_w hw 7 rfl) (own_w hw 8 rfl) own_lm_112 (rmU5 l Z a0 hw [] w0 wl wp mr hS (own_mk zj58 zj52 zj54) T173.heap n0 O185 ) rfl own_pd_299 (argsL := [(.double (own_mk zj58 zj52 zj54))]) (rest := []) rfl rfl (g := (mkF m 107 #[.val (.int ia), .val (.int ib), .val (.int fl), .val (.int zj48), .val (.int zj50), .val (.int zj52), .val (.int zj54), .val (.int zj56), .val (.int zj58), .val (.double (own_mk ia zj48 zj50)), .second, .val (.double (own_mk zj58 zj52 zj54)), .second, .val (.ref nz0_174), .unset, .unset, .unset, .unset, .unset, .unset, .unset, .unset] [(.double (own_mk zj58 zj52 zj54))])) rfl (by rw [hml]; rfl) rfl (hb hby at_107) (W := 0) rfl (by decide) (by decide) (by decide) (by decide)
              obtain ⟨nz0_186, rfl, M184, K184, z187, F188, F189, F190, F191, F192, F193, F194, F195⟩ := hQ184
              have N184 := Fr.app N173 M184
              refine own_st (fun u_ k_ => st184 u_ k_) ?_
              show own_Go p e below _ (T184.setTop (mkF m 110 #[.val (.int ia), .val (.int ib), .val (.int fl), .val (.int zj48), .val (.int zj50), .val (.int zj52), .val (.int zj54), .val (.int zj56), .val (.int zj58), .val (.double (own_mk ia zj48 zj50)), .second, .val (.double (own_mk zj58 zj52 zj54)), .second, .val (.ref nz0_174), .unset, .unset, .unset, .unset, .unset, .unset, .unset, .unset] [(.ref nz0_186)]))
              refine own_st (fun u_ k_ => XS.astore X184.here hx rfl (hb hby at_110) rfl rfl (l' := #[.val (.int ia), .val (.int ib), .val (.int fl), .val (.int zj48), .val (.int zj50), .val (.int zj52), .val (.int zj54), .val (.int zj56), .val (.int zj58), .val (.double (own_mk ia zj48 zj50)), .second, .val (.double (own_mk zj58 zj52 zj54)), .second, .val (.ref nz0_174), .val (.ref nz0_186), .unset, .unset, .unset, .unset, .unset, .unset, .unset]) rfl k_) ?_
              refine own_st (fun u_ k_ => XS.iloadN X184.here hx rfl (hb hby at_112) rfl k_) ?_
              show own_Go p e below _ (T184.setTop (mkF m 113 #[.val (.int ia), .val (.int ib), .val (.int fl), .val (.int zj48), .val (.int zj50), .val (.int zj52), .val (.int zj54), .val (.int zj56), .val (.int zj58), .val (.double (own_mk ia zj48 zj50)), .second, .val (.double (own_mk zj58 zj52 zj54)), .second, .val (.ref nz0_174), .val (.ref nz0_186), .unset, .unset, .unset, .unset, .unset, .unset, .unset] [(.int ia)]))
              refine own_st (fun u_ k_ => XS.iloadN X184.here hx rfl (hb hby at_113) rfl k_) ?_
              refine own_st (fun u_ k_ => XS.iload X184.here hx rfl (hb hby at_114) rfl k_) ?_
              show own_Go p e below _ (T184.setTop (mkF m 116 #[.val (.int ia), .val (.int ib), .val (.int fl), .val (.int zj48), .val (.int zj50), .val (.int zj52), .val (.int zj54), .val (.int zj56), .val (.int zj58), .val (.double (own_mk ia zj48 zj50)), .second, .val (.double (own_mk zj58 zj52 zj54)), .second, .val (.ref nz0_174), .val (.ref nz0_186), .unset, .unset, .unset, .unset, .unset, .unset, .unset] [(.int zj50), (.int zj48), (.int ia)]))
              have O197 : Old Z n0 T184.heap := O185.keep K184 all0
              obtain ⟨T196, v196, L196, X196, hQ196, st196⟩ := own_callS X184 hx hZ (y := own_y_154) hown (own_w hw 45 rfl) (own_w hw 46 rfl) (own_w hw 2 rfl) (own_w hw 47 rfl) own_lm_155 (rmSc l Z a0 hw [] w0 wl wp mr hS ia zj48 zj50 T184.heap n0 O197 ) rfl own_pd_300 (argsL := [(.int ia), (.int zj48), (.int zj50)]) (rest := []) rfl rfl (g := (mkF m 116 #[.val (.int ia), .val (.int ib), .val (.int fl), .val (.int zj48), .val (.int zj50), .val (.int zj52), .val (.int zj54), .val (.int zj56), .val (.int zj58), .val (.double (own_mk ia zj48 zj50)), .second, .val (.double (own_mk zj58 zj52 zj54)), .second, .val (.ref nz0_174), .val (.ref nz0_186), .unset, .unset, .unset, .unset, .unset, .unset, .unset] [(.int zj50), (.int zj48), (.int ia)])) rfl (by rw [hml]; rfl) rfl (hb hby at_116) (W := 0) rfl (by decide) (by decide) (by decide) (by decide)
              obtain ⟨rfl, M196, e196⟩ := hQ196
              have N196 := Fr.app N184 M196
              refine own_st (fun u_ k_ => st196 u_ k_) ?_
              show own_Go p e below _ (T196.setTop (mkF m 119 #[.val (.int ia), .val (.int ib), .val (.int fl), .val (.int zj48), .val (.int zj50), .val (.int zj52), .val (.int zj54), .val (.int zj56), .val (.int zj58), .val (.double (own_mk ia zj48 zj50)), .second, .val (.double (own_mk zj58 zj52 zj54)), .second, .val (.ref nz0_174), .val (.ref nz0_186), .unset, .unset, .unset, .unset, .unset, .unset, .unset] [(.long (own_sc ia zj48 zj50))]))
              refine own_st (fun u_ k_ => XS.lstore X196.here hx rfl (hb hby at_119) rfl (l' := #[.val (.int ia), .val (.int ib), .val (.int fl), .val (.int zj48), .val (.int zj50), .val (.int zj52), .val (.int zj54), .val (.int zj56), .val (.int zj58), .val (.double (own_mk ia zj48 zj50)), .second, .val (.double (own_mk zj58 zj52 zj54)), .second, .val (.ref nz0_174), .val (.ref nz0_186), .val (.long (own_sc ia zj48 zj50)), .second, .unset, .unset, .unset, .unset, .unset]) rfl k_) ?_
              refine own_st (fun u_ k_ => XS.iload X196.here hx rfl (hb hby at_121) rfl k_) ?_
              show own_Go p e below _ (T196.setTop (mkF m 123 #[.val (.int ia), .val (.int ib), .val (.int fl), .val (.int zj48), .val (.int zj50), .val (.int zj52), .val (.int zj54), .val (.int zj56), .val (.int zj58), .val (.double (own_mk ia zj48 zj50)), .second, .val (.double (own_mk zj58 zj52 zj54)), .second, .val (.ref nz0_174), .val (.ref nz0_186), .val (.long (own_sc ia zj48 zj50)), .second, .unset, .unset, .unset, .unset, .unset] [(.int zj58)]))
              refine own_st (fun u_ k_ => XS.iload X196.here hx rfl (hb hby at_123) rfl k_) ?_
              refine own_st (fun u_ k_ => XS.iload X196.here hx rfl (hb hby at_125) rfl k_) ?_
              show own_Go p e below _ (T196.setTop (mkF m 127 #[.val (.int ia), .val (.int ib), .val (.int fl), .val (.int zj48), .val (.int zj50), .val (.int zj52), .val (.int zj54), .val (.int zj56), .val (.int zj58), .val (.double (own_mk ia zj48 zj50)), .second, .val (.double (own_mk zj58 zj52 zj54)), .second, .val (.ref nz0_174), .val (.ref nz0_186), .val (.long (own_sc ia zj48 zj50)), .second, .unset, .unset, .unset, .unset, .unset] [(.int zj54), (.int zj52), (.int zj58)]))
              obtain ⟨T198, v198, L198, X198, hQ198, st198⟩ := own_callS X196 hx hZ (y := own_y_154) hown (own_w hw 45 rfl) (own_w hw 46 rfl) (own_w hw 2 rfl) (own_w hw 47 rfl) own_lm_155 (rmSc l Z a0 hw [] w0 wl wp mr hS zj58 zj52 zj54 T184.heap n0 O197 ) e196 own_pd_300 (argsL := [(.int zj58), (.int zj52), (.int zj54)]) (rest := []) rfl rfl (g := (mkF m 127 #[.val (.int ia), .val (.int ib), .val (.int fl), .val (.int zj48), .val (.int zj50), .val (.int zj52), .val (.int zj54), .val (.int zj56), .val (.int zj58), .val (.double (own_mk ia zj48 zj50)), .second, .val (.double (own_mk zj58 zj52 zj54)), .second, .val (.ref nz0_174), .val (.ref nz0_186), .val (.long (own_sc ia zj48 zj50)), .second, .unset, .unset, .unset, .unset, .unset] [(.int zj54), (.int zj52), (.int zj58)])) rfl (by rw [hml]; rfl) rfl (hb hby at_127) (W := 0) rfl (by decide) (by decide) (by decide) (by decide)
              obtain ⟨rfl, M198, e198⟩ := hQ198
              have N198 := Fr.app N196 M198
              refine own_st (fun u_ k_ => st198 u_ k_) ?_
              show own_Go p e below _ (T198.setTop (mkF m 130 #[.val (.int ia), .val (.int ib), .val (.int fl), .val (.int zj48), .val (.int zj50), .val (.int zj52), .val (.int zj54), .val (.int zj56), .val (.int zj58), .val (.double (own_mk ia zj48 zj50)), .second, .val (.double (own_mk zj58 zj52 zj54)), .second, .val (.ref nz0_174), .val (.ref nz0_186), .val (.long (own_sc ia zj48 zj50)), .second, .unset, .unset, .unset, .unset, .unset] [(.long (own_sc zj58 zj52 zj54))]))
              refine own_st (fun u_ k_ => XS.lstore X198.here hx rfl (hb hby at_130) rfl (l' := #[.val (.int ia), .val (.int ib), .val (.int fl), .val (.int zj48), .val (.int zj50), .val (.int zj52), .val (.int zj54), .val (.int zj56), .val (.int zj58), .val (.double (own_mk ia zj48 zj50)), .second, .val (.double (own_mk zj58 zj52 zj54)), .second, .val (.ref nz0_174), .val (.ref nz0_186), .val (.long (own_sc ia zj48 zj50)), .second, .val (.long (own_sc zj58 zj52 zj54)), .second, .unset, .unset, .unset]) rfl k_) ?_
              refine own_join (A := fun z : Int32 => z = own_nz ia zj48) (U := fun z : Int32 => (T198.setTop (mkF m 145 #[.val (.int ia), .val (.int ib), .val (.int fl), .val (.int zj48), .val (.int zj50), .val (.int zj52), .val (.int zj54), .val (.int zj56), .val (.int zj58), .val (.double (own_mk ia zj48 zj50)), .second, .val (.double (own_mk zj58 zj52 zj54)), .second, .val (.ref nz0_174), .val (.ref nz0_186), .val (.long (own_sc ia zj48 zj50)), .second, .val (.long (own_sc zj58 zj52 zj54)), .second, .unset, .unset, .unset] [(.int z)]))) ?_ ?_
              · intro zj199 hzj199
                show own_Go p e below _ (T198.setTop (mkF m 145 #[.val (.int ia), .val (.int ib), .val (.int fl), .val (.int zj48), .val (.int zj50), .val (.int zj52), .val (.int zj54), .val (.int zj56), .val (.int zj58), .val (.double (own_mk ia zj48 zj50)), .second, .val (.double (own_mk zj58 zj52 zj54)), .second, .val (.ref nz0_174), .val (.ref nz0_186), .val (.long (own_sc ia zj48 zj50)), .second, .val (.long (own_sc zj58 zj52 zj54)), .second, .unset, .unset, .unset] [(.int zj199)]))
                refine own_st (fun u_ k_ => XS.istore X198.here hx rfl (hb hby at_145) rfl (l' := #[.val (.int ia), .val (.int ib), .val (.int fl), .val (.int zj48), .val (.int zj50), .val (.int zj52), .val (.int zj54), .val (.int zj56), .val (.int zj58), .val (.double (own_mk ia zj48 zj50)), .second, .val (.double (own_mk zj58 zj52 zj54)), .second, .val (.ref nz0_174), .val (.ref nz0_186), .val (.long (own_sc ia zj48 zj50)), .second, .val (.long (own_sc zj58 zj52 zj54)), .second, .val (.int zj199), .unset, .unset]) rfl k_) ?_
                show own_Go p e below _ (T198.setTop (mkF m 147 #[.val (.int ia), .val (.int ib), .val (.int fl), .val (.int zj48), .val (.int zj50), .val (.int zj52), .val (.int zj54), .val (.int zj56), .val (.int zj58), .val (.double (own_mk ia zj48 zj50)), .second, .val (.double (own_mk zj58 zj52 zj54)), .second, .val (.ref nz0_174), .val (.ref nz0_186), .val (.long (own_sc ia zj48 zj50)), .second, .val (.long (own_sc zj58 zj52 zj54)), .second, .val (.int zj199), .unset, .unset] []))
                refine own_join (A := fun z : Int32 => z = own_nz zj58 zj52) (U := fun z : Int32 => (T198.setTop (mkF m 162 #[.val (.int ia), .val (.int ib), .val (.int fl), .val (.int zj48), .val (.int zj50), .val (.int zj52), .val (.int zj54), .val (.int zj56), .val (.int zj58), .val (.double (own_mk ia zj48 zj50)), .second, .val (.double (own_mk zj58 zj52 zj54)), .second, .val (.ref nz0_174), .val (.ref nz0_186), .val (.long (own_sc ia zj48 zj50)), .second, .val (.long (own_sc zj58 zj52 zj54)), .second, .val (.int zj199), .unset, .unset] [(.int z)]))) ?_ ?_
                · intro zj201 hzj201
                  show own_Go p e below _ (T198.setTop (mkF m 162 #[.val (.int ia), .val (.int ib), .val (.int fl), .val (.int zj48), .val (.int zj50), .val (.int zj52), .val (.int zj54), .val (.int zj56), .val (.int zj58), .val (.double (own_mk ia zj48 zj50)), .second, .val (.double (own_mk zj58 zj52 zj54)), .second, .val (.ref nz0_174), .val (.ref nz0_186), .val (.long (own_sc ia zj48 zj50)), .second, .val (.long (own_sc zj58 zj52 zj54)), .second, .val (.int zj199), .unset, .unset] [(.int zj201)]))
                  refine own_st (fun u_ k_ => XS.istore X198.here hx rfl (hb hby at_162) rfl (l' := #[.val (.int ia), .val (.int ib), .val (.int fl), .val (.int zj48), .val (.int zj50), .val (.int zj52), .val (.int zj54), .val (.int zj56), .val (.int zj58), .val (.double (own_mk ia zj48 zj50)), .second, .val (.double (own_mk zj58 zj52 zj54)), .second, .val (.ref nz0_174), .val (.ref nz0_186), .val (.long (own_sc ia zj48 zj50)), .second, .val (.long (own_sc zj58 zj52 zj54)), .second, .val (.int zj199), .val (.int zj201), .unset]) rfl k_) ?_
                  refine own_join (A := fun z : Int32 => z = own_ex (own_sc ia zj48 zj50) (own_sc zj58 zj52 zj54) zj199 zj201) (U := fun z : Int32 => (T198.setTop (mkF m 191 #[.val (.int ia), .val (.int ib), .val (.int fl), .val (.int zj48), .val (.int zj50), .val (.int zj52), .val (.int zj54), .val (.int zj56), .val (.int zj58), .val (.double (own_mk ia zj48 zj50)), .second, .val (.double (own_mk zj58 zj52 zj54)), .second, .val (.ref nz0_174), .val (.ref nz0_186), .val (.long (own_sc ia zj48 zj50)), .second, .val (.long (own_sc zj58 zj52 zj54)), .second, .val (.int zj199), .val (.int zj201), .unset] [(.int z)]))) ?_ ?_
                  · intro zj203 hzj203
                    show own_Go p e below _ (T198.setTop (mkF m 191 #[.val (.int ia), .val (.int ib), .val (.int fl), .val (.int zj48), .val (.int zj50), .val (.int zj52), .val (.int zj54), .val (.int zj56), .val (.int zj58), .val (.double (own_mk ia zj48 zj50)), .second, .val (.double (own_mk zj58 zj52 zj54)), .second, .val (.ref nz0_174), .val (.ref nz0_186), .val (.long (own_sc ia zj48 zj50)), .second, .val (.long (own_sc zj58 zj52 zj54)), .second, .val (.int zj199), .val (.int zj201), .unset] [(.int zj203)]))
                    refine own_st (fun u_ k_ => XS.istore X198.here hx rfl (hb hby at_191) rfl (l' := #[.val (.int ia), .val (.int ib), .val (.int fl), .val (.int zj48), .val (.int zj50), .val (.int zj52), .val (.int zj54), .val (.int zj56), .val (.int zj58), .val (.double (own_mk ia zj48 zj50)), .second, .val (.double (own_mk zj58 zj52 zj54)), .second, .val (.ref nz0_174), .val (.ref nz0_186), .val (.long (own_sc ia zj48 zj50)), .second, .val (.long (own_sc zj58 zj52 zj54)), .second, .val (.int zj199), .val (.int zj201), .val (.int zj203)]) rfl k_) ?_
                    show own_Go p e below _ (T198.setTop (mkF m 193 #[.val (.int ia), .val (.int ib), .val (.int fl), .val (.int zj48), .val (.int zj50), .val (.int zj52), .val (.int zj54), .val (.int zj56), .val (.int zj58), .val (.double (own_mk ia zj48 zj50)), .second, .val (.double (own_mk zj58 zj52 zj54)), .second, .val (.ref nz0_174), .val (.ref nz0_186), .val (.long (own_sc ia zj48 zj50)), .second, .val (.long (own_sc zj58 zj52 zj54)), .second, .val (.int zj199), .val (.int zj201), .val (.int zj203)] []))
                    refine own_st (fun u_ k_ => XS.aload X198.here hx rfl (hb hby at_193) rfl rfl k_) ?_
                    have F207 := (F183.keep K184 nin0)
                    have F209 := (F176.keep K184)
                    obtain ⟨T208, v208, L208, X208, hQ208, st208⟩ := own_callV X198 hx hZ (y := own_y_304) (z := own_y_304) hown (own_w hw 49 rfl) (own_w hw 50 rfl) (notFace_of_selects (args := #[]) (mvT hZ (own_w hw 52 rfl))) (own_w hw 52 rfl) (own_w hw 51 rfl) (own_w hw 7 rfl) (own_w hw 53 rfl) own_lm_112 (rmU6 l Z a0 hw [] w0 wl wp mr hS nz0_174 T184.heap n0 O197 F207) e198 F209 own_pd_305 (argsL := []) (rest := []) rfl rfl (g := (mkF m 195 #[.val (.int ia), .val (.int ib), .val (.int fl), .val (.int zj48), .val (.int zj50), .val (.int zj52), .val (.int zj54), .val (.int zj56), .val (.int zj58), .val (.double (own_mk ia zj48 zj50)), .second, .val (.double (own_mk zj58 zj52 zj54)), .second, .val (.ref nz0_174), .val (.ref nz0_186), .val (.long (own_sc ia zj48 zj50)), .second, .val (.long (own_sc zj58 zj52 zj54)), .second, .val (.int zj199), .val (.int zj201), .val (.int zj203)] [(.ref nz0_174)])) rfl (by rw [hml]; rfl) rfl (hb hby at_195) (W := 0) rfl (by decide) (by decide) (by decide) (by decide)
                    obtain ⟨rfl, M208, e208⟩ := hQ208
                    have N208 := Fr.app N198 M208
                    refine own_st (fun u_ k_ => st208 u_ k_) ?_
                    show own_Go p e below _ (T208.setTop (mkF m 198 #[.val (.int ia), .val (.int ib), .val (.int fl), .val (.int zj48), .val (.int zj50), .val (.int zj52), .val (.int zj54), .val (.int zj56), .val (.int zj58), .val (.double (own_mk ia zj48 zj50)), .second, .val (.double (own_mk zj58 zj52 zj54)), .second, .val (.ref nz0_174), .val (.ref nz0_186), .val (.long (own_sc ia zj48 zj50)), .second, .val (.long (own_sc zj58 zj52 zj54)), .second, .val (.int zj199), .val (.int zj201), .val (.int zj203)] [(.ref w0)]))
                    have F210 := Sta.ext O197.2 hS.1
                    obtain ⟨T211, X211, e211, st211⟩ := getS2 X208 hx hZ hown (host := "") (Or.inl (own_w hw 54 rfl)) Via.refl e208 F210 (g := (mkF m 198 #[.val (.int ia), .val (.int ib), .val (.int fl), .val (.int zj48), .val (.int zj50), .val (.int zj52), .val (.int zj54), .val (.int zj56), .val (.int zj58), .val (.double (own_mk ia zj48 zj50)), .second, .val (.double (own_mk zj58 zj52 zj54)), .second, .val (.ref nz0_174), .val (.ref nz0_186), .val (.long (own_sc ia zj48 zj50)), .second, .val (.long (own_sc zj58 zj52 zj54)), .second, .val (.int zj199), .val (.int zj201), .val (.int zj203)] [(.ref w0)])) rfl (hb hby at_198)
                    refine own_st (fun u_ k_ => st211 u_ k_) ?_
                    show own_Go p e below _ (T211.setTop (mkF m 201 #[.val (.int ia), .val (.int ib), .val (.int fl), .val (.int zj48), .val (.int zj50), .val (.int zj52), .val (.int zj54), .val (.int zj56), .val (.int zj58), .val (.double (own_mk ia zj48 zj50)), .second, .val (.double (own_mk zj58 zj52 zj54)), .second, .val (.ref nz0_174), .val (.ref nz0_186), .val (.long (own_sc ia zj48 zj50)), .second, .val (.long (own_sc zj58 zj52 zj54)), .second, .val (.int zj199), .val (.int zj201), .val (.int zj203)] [(.ref w0), (.ref w0)]))
                    refine own_st (fun u_ k_ => XT.acmpNo X211.here hx rfl (hb hby at_201) rfl rfl rfl (XT.aa_ne_f rfl) k_) ?_
                    show own_Go p e below _ (T211.setTop (mkF m 204 #[.val (.int ia), .val (.int ib), .val (.int fl), .val (.int zj48), .val (.int zj50), .val (.int zj52), .val (.int zj54), .val (.int zj56), .val (.int zj58), .val (.double (own_mk ia zj48 zj50)), .second, .val (.double (own_mk zj58 zj52 zj54)), .second, .val (.ref nz0_174), .val (.ref nz0_186), .val (.long (own_sc ia zj48 zj50)), .second, .val (.long (own_sc zj58 zj52 zj54)), .second, .val (.int zj199), .val (.int zj201), .val (.int zj203)] []))
                    refine own_st (fun u_ k_ => XS.aload X211.here hx rfl (hb hby at_204) rfl rfl k_) ?_
                    obtain ⟨T212, v212, L212, X212, hQ212, st212⟩ := own_callV X211 hx hZ (y := own_y_304) (z := own_y_304) hown (own_w hw 49 rfl) (own_w hw 50 rfl) (notFace_of_selects (args := #[]) (mvT hZ (own_w hw 52 rfl))) (own_w hw 52 rfl) (own_w hw 51 rfl) (own_w hw 7 rfl) (own_w hw 53 rfl) own_lm_112 (rmU6 l Z a0 hw [] w0 wl wp mr hS nz0_186 T184.heap n0 O197 F195) e211 F188 own_pd_305 (argsL := []) (rest := []) rfl rfl (g := (mkF m 206 #[.val (.int ia), .val (.int ib), .val (.int fl), .val (.int zj48), .val (.int zj50), .val (.int zj52), .val (.int zj54), .val (.int zj56), .val (.int zj58), .val (.double (own_mk ia zj48 zj50)), .second, .val (.double (own_mk zj58 zj52 zj54)), .second, .val (.ref nz0_174), .val (.ref nz0_186), .val (.long (own_sc ia zj48 zj50)), .second, .val (.long (own_sc zj58 zj52 zj54)), .second, .val (.int zj199), .val (.int zj201), .val (.int zj203)] [(.ref nz0_186)])) rfl (by rw [hml]; rfl) rfl (hb hby at_206) (W := 0) rfl (by decide) (by decide) (by decide) (by decide)
                    obtain ⟨rfl, M212, e212⟩ := hQ212
                    have N212 := Fr.app N208 M212
                    refine own_st (fun u_ k_ => st212 u_ k_) ?_
                    show own_Go p e below _ (T212.setTop (mkF m 209 #[.val (.int ia), .val (.int ib), .val (.int fl), .val (.int zj48), .val (.int zj50), .val (.int zj52), .val (.int zj54), .val (.int zj56), .val (.int zj58), .val (.double (own_mk ia zj48 zj50)), .second, .val (.double (own_mk zj58 zj52 zj54)), .second, .val (.ref nz0_174), .val (.ref nz0_186), .val (.long (own_sc ia zj48 zj50)), .second, .val (.long (own_sc zj58 zj52 zj54)), .second, .val (.int zj199), .val (.int zj201), .val (.int zj203)] [(.ref w0)]))
                    obtain ⟨T213, X213, e213, st213⟩ := getS2 X212 hx hZ hown (host := "") (Or.inl (own_w hw 54 rfl)) Via.refl e212 F210 (g := (mkF m 209 #[.val (.int ia), .val (.int ib), .val (.int fl), .val (.int zj48), .val (.int zj50), .val (.int zj52), .val (.int zj54), .val (.int zj56), .val (.int zj58), .val (.double (own_mk ia zj48 zj50)), .second, .val (.double (own_mk zj58 zj52 zj54)), .second, .val (.ref nz0_174), .val (.ref nz0_186), .val (.long (own_sc ia zj48 zj50)), .second, .val (.long (own_sc zj58 zj52 zj54)), .second, .val (.int zj199), .val (.int zj201), .val (.int zj203)] [(.ref w0)])) rfl (hb hby at_209)
                    refine own_st (fun u_ k_ => st213 u_ k_) ?_
                    show own_Go p e below _ (T213.setTop (mkF m 212 #[.val (.int ia), .val (.int ib), .val (.int fl), .val (.int zj48), .val (.int zj50), .val (.int zj52), .val (.int zj54), .val (.int zj56), .val (.int zj58), .val (.double (own_mk ia zj48 zj50)), .second, .val (.double (own_mk zj58 zj52 zj54)), .second, .val (.ref nz0_174), .val (.ref nz0_186), .val (.long (own_sc ia zj48 zj50)), .second, .val (.long (own_sc zj58 zj52 zj54)), .second, .val (.int zj199), .val (.int zj201), .val (.int zj203)] [(.ref w0), (.ref w0)]))
                    refine own_st (fun u_ k_ => XT.acmpNo X213.here hx rfl (hb hby at_212) rfl rfl rfl (XT.aa_ne_f rfl) k_) ?_
                    show own_Go p e below _ (T213.setTop (mkF m 215 #[.val (.int ia), .val (.int ib), .val (.int fl), .val (.int zj48), .val (.int zj50), .val (.int zj52), .val (.int zj54), .val (.int zj56), .val (.int zj58), .val (.double (own_mk ia zj48 zj50)), .second, .val (.double (own_mk zj58 zj52 zj54)), .second, .val (.ref nz0_174), .val (.ref nz0_186), .val (.long (own_sc ia zj48 zj50)), .second, .val (.long (own_sc zj58 zj52 zj54)), .second, .val (.int zj199), .val (.int zj201), .val (.int zj203)] []))
                    refine own_st (fun u_ k_ => XS.aload X213.here hx rfl (hb hby at_215) rfl rfl k_) ?_
                    refine own_st (fun u_ k_ => XS.aload X213.here hx rfl (hb hby at_217) rfl rfl k_) ?_
                    show own_Go p e below _ (T213.setTop (mkF m 219 #[.val (.int ia), .val (.int ib), .val (.int fl), .val (.int zj48), .val (.int zj50), .val (.int zj52), .val (.int zj54), .val (.int zj56), .val (.int zj58), .val (.double (own_mk ia zj48 zj50)), .second, .val (.double (own_mk zj58 zj52 zj54)), .second, .val (.ref nz0_174), .val (.ref nz0_186), .val (.long (own_sc ia zj48 zj50)), .second, .val (.long (own_sc zj58 zj52 zj54)), .second, .val (.int zj199), .val (.int zj201), .val (.int zj203)] [(.ref nz0_174), (.ref nz0_174)]))
                    have F214 := (F179.keep K184 nin0)
                    obtain ⟨T215, v215, L215, X215, hQ215, st215⟩ := own_callV X213 hx hZ (y := own_y_119) (z := own_y_119) hown (own_w hw 55 rfl) (own_w hw 56 rfl) (notFace_of_selects (args := #[]) (mvT hZ (own_w hw 58 rfl))) (own_w hw 58 rfl) (own_w hw 57 rfl) (own_w hw 7 rfl) (own_w hw 59 rfl) own_lm_112 (rmEq l Z a0 hw [] w0 wl wp mr hS nz0_174 nz0_174 (own_mk ia zj48 zj50) (own_mk ia zj48 zj50) T184.heap n0 O197 F209 F209 F207 F207 F214 F214 (own_mk_nn ia zj48 zj50) (own_mk_nn ia zj48 zj50)) e213 F209 own_pd_306 (argsL := [(.ref nz0_174)]) (rest := []) rfl rfl (g := (mkF m 219 #[.val (.int ia), .val (.int ib), .val (.int fl), .val (.int zj48), .val (.int zj50), .val (.int zj52), .val (.int zj54), .val (.int zj56), .val (.int zj58), .val (.double (own_mk ia zj48 zj50)), .second, .val (.double (own_mk zj58 zj52 zj54)), .second, .val (.ref nz0_174), .val (.ref nz0_186), .val (.long (own_sc ia zj48 zj50)), .second, .val (.long (own_sc zj58 zj52 zj54)), .second, .val (.int zj199), .val (.int zj201), .val (.int zj203)] [(.ref nz0_174), (.ref nz0_174)])) rfl (by rw [hml]; rfl) rfl (hb hby at_219) (W := 0) rfl (by decide) (by decide) (by decide) (by decide)
                    obtain ⟨rfl, M215, e215⟩ := hQ215
                    have N215 := Fr.app N212 M215
                    refine own_st (fun u_ k_ => st215 u_ k_) ?_
                    show own_Go p e below _ (T215.setTop (mkF m 222 #[.val (.int ia), .val (.int ib), .val (.int fl), .val (.int zj48), .val (.int zj50), .val (.int zj52), .val (.int zj54), .val (.int zj56), .val (.int zj58), .val (.double (own_mk ia zj48 zj50)), .second, .val (.double (own_mk zj58 zj52 zj54)), .second, .val (.ref nz0_174), .val (.ref nz0_186), .val (.long (own_sc ia zj48 zj50)), .second, .val (.long (own_sc zj58 zj52 zj54)), .second, .val (.int zj199), .val (.int zj201), .val (.int zj203)] [(.int (own_eq (own_mk ia zj48 zj50) (own_mk ia zj48 zj50)))]))
                    refine own_st (fun u_ k_ => XS.ifNo X215.here hx rfl (hb hby at_222) rfl (XT.i0_eq_f (own_eqs _)) k_) ?_
                    refine own_st (fun u_ k_ => XS.aload X215.here hx rfl (hb hby at_225) rfl rfl k_) ?_
                    show own_Go p e below _ (T215.setTop (mkF m 227 #[.val (.int ia), .val (.int ib), .val (.int fl), .val (.int zj48), .val (.int zj50), .val (.int zj52), .val (.int zj54), .val (.int zj56), .val (.int zj58), .val (.double (own_mk ia zj48 zj50)), .second, .val (.double (own_mk zj58 zj52 zj54)), .second, .val (.ref nz0_174), .val (.ref nz0_186), .val (.long (own_sc ia zj48 zj50)), .second, .val (.long (own_sc zj58 zj52 zj54)), .second, .val (.int zj199), .val (.int zj201), .val (.int zj203)] [(.ref nz0_174)]))
                    refine own_st (fun u_ k_ => XS.aload X215.here hx rfl (hb hby at_227) rfl rfl k_) ?_
                    obtain ⟨T216, v216, L216, X216, hQ216, st216⟩ := own_callV X215 hx hZ (y := own_y_119) (z := own_y_119) hown (own_w hw 55 rfl) (own_w hw 56 rfl) (notFace_of_selects (args := #[]) (mvT hZ (own_w hw 58 rfl))) (own_w hw 58 rfl) (own_w hw 57 rfl) (own_w hw 7 rfl) (own_w hw 59 rfl) own_lm_112 (rmEq l Z a0 hw [] w0 wl wp mr hS nz0_174 nz0_186 (own_mk ia zj48 zj50) (own_mk zj58 zj52 zj54) T184.heap n0 O197 F209 F188 F207 F195 F214 F191 (own_mk_nn ia zj48 zj50) (own_mk_nn zj58 zj52 zj54)) e215 F209 own_pd_306 (argsL := [(.ref nz0_186)]) (rest := []) rfl rfl (g := (mkF m 229 #[.val (.int ia), .val (.int ib), .val (.int fl), .val (.int zj48), .val (.int zj50), .val (.int zj52), .val (.int zj54), .val (.int zj56), .val (.int zj58), .val (.double (own_mk ia zj48 zj50)), .second, .val (.double (own_mk zj58 zj52 zj54)), .second, .val (.ref nz0_174), .val (.ref nz0_186), .val (.long (own_sc ia zj48 zj50)), .second, .val (.long (own_sc zj58 zj52 zj54)), .second, .val (.int zj199), .val (.int zj201), .val (.int zj203)] [(.ref nz0_186), (.ref nz0_174)])) rfl (by rw [hml]; rfl) rfl (hb hby at_229) (W := 0) rfl (by decide) (by decide) (by decide) (by decide)
                    obtain ⟨rfl, M216, e216⟩ := hQ216
                    have N216 := Fr.app N215 M216
                    refine own_st (fun u_ k_ => st216 u_ k_) ?_
                    show own_Go p e below _ (T216.setTop (mkF m 232 #[.val (.int ia), .val (.int ib), .val (.int fl), .val (.int zj48), .val (.int zj50), .val (.int zj52), .val (.int zj54), .val (.int zj56), .val (.int zj58), .val (.double (own_mk ia zj48 zj50)), .second, .val (.double (own_mk zj58 zj52 zj54)), .second, .val (.ref nz0_174), .val (.ref nz0_186), .val (.long (own_sc ia zj48 zj50)), .second, .val (.long (own_sc zj58 zj52 zj54)), .second, .val (.int zj199), .val (.int zj201), .val (.int zj203)] [(.int (own_eq (own_mk ia zj48 zj50) (own_mk zj58 zj52 zj54)))]))
                    refine own_st (fun u_ k_ => XS.iload X216.here hx rfl (hb hby at_232) rfl k_) ?_
                    refine own_st (fun u_ k_ => XS.icmpNo X216.here hx rfl (hb hby at_234) rfl (XT.ii_ne_f ((own_main hzj199 hzj201).trans hzj203.symm)) k_) ?_
                    show own_Go p e below _ (T216.setTop (mkF m 237 #[.val (.int ia), .val (.int ib), .val (.int fl), .val (.int zj48), .val (.int zj50), .val (.int zj52), .val (.int zj54), .val (.int zj56), .val (.int zj58), .val (.double (own_mk ia zj48 zj50)), .second, .val (.double (own_mk zj58 zj52 zj54)), .second, .val (.ref nz0_174), .val (.ref nz0_186), .val (.long (own_sc ia zj48 zj50)), .second, .val (.long (own_sc zj58 zj52 zj54)), .second, .val (.int zj199), .val (.int zj201), .val (.int zj203)] []))
                    refine own_st (fun u_ k_ => XS.aload X216.here hx rfl (hb hby at_237) rfl rfl k_) ?_
                    refine own_st (fun u_ k_ => XS.aload X216.here hx rfl (hb hby at_239) rfl rfl k_) ?_
                    show own_Go p e below _ (T216.setTop (mkF m 241 #[.val (.int ia), .val (.int ib), .val (.int fl), .val (.int zj48), .val (.int zj50), .val (.int zj52), .val (.int zj54), .val (.int zj56), .val (.int zj58), .val (.double (own_mk ia zj48 zj50)), .second, .val (.double (own_mk zj58 zj52 zj54)), .second, .val (.ref nz0_174), .val (.ref nz0_186), .val (.long (own_sc ia zj48 zj50)), .second, .val (.long (own_sc zj58 zj52 zj54)), .second, .val (.int zj199), .val (.int zj201), .val (.int zj203)] [(.ref nz0_174), (.ref nz0_186)]))
                    obtain ⟨T217, v217, L217, X217, hQ217, st217⟩ := own_callV X216 hx hZ (y := own_y_119) (z := own_y_119) hown (own_w hw 55 rfl) (own_w hw 56 rfl) (notFace_of_selects (args := #[]) (mvT hZ (own_w hw 58 rfl))) (own_w hw 58 rfl) (own_w hw 57 rfl) (own_w hw 7 rfl) (own_w hw 59 rfl) own_lm_112 (rmEq l Z a0 hw [] w0 wl wp mr hS nz0_186 nz0_174 (own_mk zj58 zj52 zj54) (own_mk ia zj48 zj50) T184.heap n0 O197 F188 F209 F195 F207 F191 F214 (own_mk_nn zj58 zj52 zj54) (own_mk_nn ia zj48 zj50)) e216 F188 own_pd_306 (argsL := [(.ref nz0_174)]) (rest := []) rfl rfl (g := (mkF m 241 #[.val (.int ia), .val (.int ib), .val (.int fl), .val (.int zj48), .val (.int zj50), .val (.int zj52), .val (.int zj54), .val (.int zj56), .val (.int zj58), .val (.double (own_mk ia zj48 zj50)), .second, .val (.double (own_mk zj58 zj52 zj54)), .second, .val (.ref nz0_174), .val (.ref nz0_186), .val (.long (own_sc ia zj48 zj50)), .second, .val (.long (own_sc zj58 zj52 zj54)), .second, .val (.int zj199), .val (.int zj201), .val (.int zj203)] [(.ref nz0_174), (.ref nz0_186)])) rfl (by rw [hml]; rfl) rfl (hb hby at_241) (W := 0) rfl (by decide) (by decide) (by decide) (by decide)
                    obtain ⟨rfl, M217, e217⟩ := hQ217
                    have N217 := Fr.app N216 M217
                    refine own_st (fun u_ k_ => st217 u_ k_) ?_
                    show own_Go p e below _ (T217.setTop (mkF m 244 #[.val (.int ia), .val (.int ib), .val (.int fl), .val (.int zj48), .val (.int zj50), .val (.int zj52), .val (.int zj54), .val (.int zj56), .val (.int zj58), .val (.double (own_mk ia zj48 zj50)), .second, .val (.double (own_mk zj58 zj52 zj54)), .second, .val (.ref nz0_174), .val (.ref nz0_186), .val (.long (own_sc ia zj48 zj50)), .second, .val (.long (own_sc zj58 zj52 zj54)), .second, .val (.int zj199), .val (.int zj201), .val (.int zj203)] [(.int (own_eq (own_mk zj58 zj52 zj54) (own_mk ia zj48 zj50)))]))
                    refine own_st (fun u_ k_ => XS.iload X217.here hx rfl (hb hby at_244) rfl k_) ?_
                    refine own_st (fun u_ k_ => XS.icmpNo X217.here hx rfl (hb hby at_246) rfl (XT.ii_ne_f ((own_eqc _ _).trans ((own_main hzj199 hzj201).trans hzj203.symm))) k_) ?_
                    show own_Go p e below _ (T217.setTop (mkF m 249 #[.val (.int ia), .val (.int ib), .val (.int fl), .val (.int zj48), .val (.int zj50), .val (.int zj52), .val (.int zj54), .val (.int zj56), .val (.int zj58), .val (.double (own_mk ia zj48 zj50)), .second, .val (.double (own_mk zj58 zj52 zj54)), .second, .val (.ref nz0_174), .val (.ref nz0_186), .val (.long (own_sc ia zj48 zj50)), .second, .val (.long (own_sc zj58 zj52 zj54)), .second, .val (.int zj199), .val (.int zj201), .val (.int zj203)] []))
                    refine own_st (fun u_ k_ => XS.iconst X217.here hx rfl (hb hby at_249) k_) ?_
                    refine own_st (fun u_ k_ => XS.goto X217.here hx rfl (pc0 := 250) (pc' := 254) rfl (hb hby at_250) (by decide) (by decide) k_) ?_
                    show own_Go p e below _ (T217.setTop (mkF m 254 #[.val (.int ia), .val (.int ib), .val (.int fl), .val (.int zj48), .val (.int zj50), .val (.int zj52), .val (.int zj54), .val (.int zj56), .val (.int zj58), .val (.double (own_mk ia zj48 zj50)), .second, .val (.double (own_mk zj58 zj52 zj54)), .second, .val (.ref nz0_174), .val (.ref nz0_186), .val (.long (own_sc ia zj48 zj50)), .second, .val (.long (own_sc zj58 zj52 zj54)), .second, .val (.int zj199), .val (.int zj201), .val (.int zj203)] [(.int (1 : Int32))]))
                    have K218 : Keep h0 T173.heap [] := (Keep.refl h0 []).trans K173 all0
                    have K219 : Keep h0 T184.heap [] := K218.trans K184 all0
                    exact own_retX X217 hx hlk hret rfl (Or.inl ⟨rfl, by simp, _, rfl⟩) (hb hby at_254) (by decide) (by decide) (show Qrm0 Z w0 wl wp mr ia ib fl h0 n0 (some (.int (1 : Int32))) T217.heap _ from (by rw [e217]; exact ⟨rfl, N217, K219⟩))
                  · intro J204
                    refine own_st (fun u_ k_ => XS.lload X198.here hx rfl (hb hby at_164) rfl k_) ?_
                    show own_Go p e below _ (T198.setTop (mkF m 166 #[.val (.int ia), .val (.int ib), .val (.int fl), .val (.int zj48), .val (.int zj50), .val (.int zj52), .val (.int zj54), .val (.int zj56), .val (.int zj58), .val (.double (own_mk ia zj48 zj50)), .second, .val (.double (own_mk zj58 zj52 zj54)), .second, .val (.ref nz0_174), .val (.ref nz0_186), .val (.long (own_sc ia zj48 zj50)), .second, .val (.long (own_sc zj58 zj52 zj54)), .second, .val (.int zj199), .val (.int zj201), .unset] [(.long (own_sc ia zj48 zj50))]))
                    refine own_st (fun u_ k_ => XS.lload X198.here hx rfl (hb hby at_166) rfl k_) ?_
                    refine own_st (fun u_ k_ => XS.lcmp X198.here hx rfl (hb hby at_168) rfl k_) ?_
                    show own_Go p e below _ (T198.setTop (mkF m 169 #[.val (.int ia), .val (.int ib), .val (.int fl), .val (.int zj48), .val (.int zj50), .val (.int zj52), .val (.int zj54), .val (.int zj56), .val (.int zj58), .val (.double (own_mk ia zj48 zj50)), .second, .val (.double (own_mk zj58 zj52 zj54)), .second, .val (.ref nz0_174), .val (.ref nz0_186), .val (.long (own_sc ia zj48 zj50)), .second, .val (.long (own_sc zj58 zj52 zj54)), .second, .val (.int zj199), .val (.int zj201), .unset] [(.int (lcmpW (own_sc ia zj48 zj50) (own_sc zj58 zj52 zj54)))]))
                    by_cases hc220 : (lcmpW (own_sc ia zj48 zj50) (own_sc zj58 zj52 zj54)) = (0 : Int32)
                    · refine own_st (fun u_ k_ => XS.ifNo X198.here hx rfl (hb hby at_169) rfl (XT.i0_ne_f hc220) k_) ?_
                      refine own_st (fun u_ k_ => XS.lload X198.here hx rfl (hb hby at_172) rfl k_) ?_
                      show own_Go p e below _ (T198.setTop (mkF m 174 #[.val (.int ia), .val (.int ib), .val (.int fl), .val (.int zj48), .val (.int zj50), .val (.int zj52), .val (.int zj54), .val (.int zj56), .val (.int zj58), .val (.double (own_mk ia zj48 zj50)), .second, .val (.double (own_mk zj58 zj52 zj54)), .second, .val (.ref nz0_174), .val (.ref nz0_186), .val (.long (own_sc ia zj48 zj50)), .second, .val (.long (own_sc zj58 zj52 zj54)), .second, .val (.int zj199), .val (.int zj201), .unset] [(.long (own_sc ia zj48 zj50))]))
                      refine own_st (fun u_ k_ => XS.lconst X198.here hx rfl (hb hby at_174) k_) ?_
                      refine own_st (fun u_ k_ => XS.lcmp X198.here hx rfl (hb hby at_175) rfl k_) ?_
                      show own_Go p e below _ (T198.setTop (mkF m 176 #[.val (.int ia), .val (.int ib), .val (.int fl), .val (.int zj48), .val (.int zj50), .val (.int zj52), .val (.int zj54), .val (.int zj56), .val (.int zj58), .val (.double (own_mk ia zj48 zj50)), .second, .val (.double (own_mk zj58 zj52 zj54)), .second, .val (.ref nz0_174), .val (.ref nz0_186), .val (.long (own_sc ia zj48 zj50)), .second, .val (.long (own_sc zj58 zj52 zj54)), .second, .val (.int zj199), .val (.int zj201), .unset] [(.int (lcmpW (own_sc ia zj48 zj50) (0 : Int64)))]))
                      by_cases hc221 : (lcmpW (own_sc ia zj48 zj50) (0 : Int64)) = (0 : Int32)
                      · refine own_st (fun u_ k_ => XS.ifNo X198.here hx rfl (hb hby at_176) rfl (XT.i0_ne_f hc221) k_) ?_
                        refine own_st (fun u_ k_ => XS.iload X198.here hx rfl (hb hby at_179) rfl k_) ?_
                        show own_Go p e below _ (T198.setTop (mkF m 181 #[.val (.int ia), .val (.int ib), .val (.int fl), .val (.int zj48), .val (.int zj50), .val (.int zj52), .val (.int zj54), .val (.int zj56), .val (.int zj58), .val (.double (own_mk ia zj48 zj50)), .second, .val (.double (own_mk zj58 zj52 zj54)), .second, .val (.ref nz0_174), .val (.ref nz0_186), .val (.long (own_sc ia zj48 zj50)), .second, .val (.long (own_sc zj58 zj52 zj54)), .second, .val (.int zj199), .val (.int zj201), .unset] [(.int zj199)]))
                        refine own_st (fun u_ k_ => XS.iload X198.here hx rfl (hb hby at_181) rfl k_) ?_
                        by_cases hc222 : zj199 = zj201
                        · refine own_st (fun u_ k_ => XS.icmpNo X198.here hx rfl (hb hby at_183) rfl (XT.ii_ne_f hc222) k_) ?_
                          show own_Go p e below _ (T198.setTop (mkF m 186 #[.val (.int ia), .val (.int ib), .val (.int fl), .val (.int zj48), .val (.int zj50), .val (.int zj52), .val (.int zj54), .val (.int zj56), .val (.int zj58), .val (.double (own_mk ia zj48 zj50)), .second, .val (.double (own_mk zj58 zj52 zj54)), .second, .val (.ref nz0_174), .val (.ref nz0_186), .val (.long (own_sc ia zj48 zj50)), .second, .val (.long (own_sc zj58 zj52 zj54)), .second, .val (.int zj199), .val (.int zj201), .unset] []))
                          refine own_st (fun u_ k_ => XS.iconst X198.here hx rfl (hb hby at_186) k_) ?_
                          refine own_st (fun u_ k_ => XS.goto X198.here hx rfl (pc0 := 187) (pc' := 191) rfl (hb hby at_187) (by decide) (by decide) k_) ?_
                          show own_Go p e below _ (T198.setTop (mkF m 191 #[.val (.int ia), .val (.int ib), .val (.int fl), .val (.int zj48), .val (.int zj50), .val (.int zj52), .val (.int zj54), .val (.int zj56), .val (.int zj58), .val (.double (own_mk ia zj48 zj50)), .second, .val (.double (own_mk zj58 zj52 zj54)), .second, .val (.ref nz0_174), .val (.ref nz0_186), .val (.long (own_sc ia zj48 zj50)), .second, .val (.long (own_sc zj58 zj52 zj54)), .second, .val (.int zj199), .val (.int zj201), .unset] [(.int (1 : Int32))]))
                          exact J204 _ (by simp [own_ex, hc220, hc221, hc222])
                        · refine own_st (fun u_ k_ => XS.icmpYes X198.here hx rfl (pc0 := 183) (pc' := 190) rfl (hb hby at_183) rfl (XT.ii_ne_t hc222) (by decide) (by decide) k_) ?_
                          show own_Go p e below _ (T198.setTop (mkF m 190 #[.val (.int ia), .val (.int ib), .val (.int fl), .val (.int zj48), .val (.int zj50), .val (.int zj52), .val (.int zj54), .val (.int zj56), .val (.int zj58), .val (.double (own_mk ia zj48 zj50)), .second, .val (.double (own_mk zj58 zj52 zj54)), .second, .val (.ref nz0_174), .val (.ref nz0_186), .val (.long (own_sc ia zj48 zj50)), .second, .val (.long (own_sc zj58 zj52 zj54)), .second, .val (.int zj199), .val (.int zj201), .unset] []))
                          refine own_st (fun u_ k_ => XS.iconst X198.here hx rfl (hb hby at_190) k_) ?_
                          exact J204 _ (by simp [own_ex, hc220, hc221, hc222])
                      · refine own_st (fun u_ k_ => XS.ifYes X198.here hx rfl (pc0 := 176) (pc' := 186) rfl (hb hby at_176) rfl (XT.i0_ne_t hc221) (by decide) (by decide) k_) ?_
                        refine own_st (fun u_ k_ => XS.iconst X198.here hx rfl (hb hby at_186) k_) ?_
                        show own_Go p e below _ (T198.setTop (mkF m 187 #[.val (.int ia), .val (.int ib), .val (.int fl), .val (.int zj48), .val (.int zj50), .val (.int zj52), .val (.int zj54), .val (.int zj56), .val (.int zj58), .val (.double (own_mk ia zj48 zj50)), .second, .val (.double (own_mk zj58 zj52 zj54)), .second, .val (.ref nz0_174), .val (.ref nz0_186), .val (.long (own_sc ia zj48 zj50)), .second, .val (.long (own_sc zj58 zj52 zj54)), .second, .val (.int zj199), .val (.int zj201), .unset] [(.int (1 : Int32))]))
                        refine own_st (fun u_ k_ => XS.goto X198.here hx rfl (pc0 := 187) (pc' := 191) rfl (hb hby at_187) (by decide) (by decide) k_) ?_
                        exact J204 _ (by simp [own_ex, hc220, hc221])
                    · refine own_st (fun u_ k_ => XS.ifYes X198.here hx rfl (pc0 := 169) (pc' := 190) rfl (hb hby at_169) rfl (XT.i0_ne_t hc220) (by decide) (by decide) k_) ?_
                      refine own_st (fun u_ k_ => XS.iconst X198.here hx rfl (hb hby at_190) k_) ?_
                      show own_Go p e below _ (T198.setTop (mkF m 191 #[.val (.int ia), .val (.int ib), .val (.int fl), .val (.int zj48), .val (.int zj50), .val (.int zj52), .val (.int zj54), .val (.int zj56), .val (.int zj58), .val (.double (own_mk ia zj48 zj50)), .second, .val (.double (own_mk zj58 zj52 zj54)), .second, .val (.ref nz0_174), .val (.ref nz0_186), .val (.long (own_sc ia zj48 zj50)), .second, .val (.long (own_sc zj58 zj52 zj54)), .second, .val (.int zj199), .val (.int zj201), .unset] [(.int (0 : Int32))]))
                      exact J204 _ (by simp [own_ex, hc220])
                · intro J202
                  refine own_st (fun u_ k_ => XS.iload X198.here hx rfl (hb hby at_147) rfl k_) ?_
                  by_cases hc223 : zj58 = (0 : Int32)
                  · refine own_st (fun u_ k_ => XS.ifNo X198.here hx rfl (hb hby at_149) rfl (XT.i0_ne_f hc223) k_) ?_
                    show own_Go p e below _ (T198.setTop (mkF m 152 #[.val (.int ia), .val (.int ib), .val (.int fl), .val (.int zj48), .val (.int zj50), .val (.int zj52), .val (.int zj54), .val (.int zj56), .val (.int zj58), .val (.double (own_mk ia zj48 zj50)), .second, .val (.double (own_mk zj58 zj52 zj54)), .second, .val (.ref nz0_174), .val (.ref nz0_186), .val (.long (own_sc ia zj48 zj50)), .second, .val (.long (own_sc zj58 zj52 zj54)), .second, .val (.int zj199), .unset, .unset] []))
                    refine own_st (fun u_ k_ => XS.iload X198.here hx rfl (hb hby at_152) rfl k_) ?_
                    by_cases hc224 : zj52 = (0 : Int32)
                    · refine own_st (fun u_ k_ => XS.ifYes X198.here hx rfl (pc0 := 154) (pc' := 161) rfl (hb hby at_154) rfl (XT.i0_eq_t hc224) (by decide) (by decide) k_) ?_
                      show own_Go p e below _ (T198.setTop (mkF m 161 #[.val (.int ia), .val (.int ib), .val (.int fl), .val (.int zj48), .val (.int zj50), .val (.int zj52), .val (.int zj54), .val (.int zj56), .val (.int zj58), .val (.double (own_mk ia zj48 zj50)), .second, .val (.double (own_mk zj58 zj52 zj54)), .second, .val (.ref nz0_174), .val (.ref nz0_186), .val (.long (own_sc ia zj48 zj50)), .second, .val (.long (own_sc zj58 zj52 zj54)), .second, .val (.int zj199), .unset, .unset] []))
                      refine own_st (fun u_ k_ => XS.iconst X198.here hx rfl (hb hby at_161) k_) ?_
                      exact J202 _ (by simp [own_nz, hc223, hc224])
                    · refine own_st (fun u_ k_ => XS.ifNo X198.here hx rfl (hb hby at_154) rfl (XT.i0_eq_f hc224) k_) ?_
                      show own_Go p e below _ (T198.setTop (mkF m 157 #[.val (.int ia), .val (.int ib), .val (.int fl), .val (.int zj48), .val (.int zj50), .val (.int zj52), .val (.int zj54), .val (.int zj56), .val (.int zj58), .val (.double (own_mk ia zj48 zj50)), .second, .val (.double (own_mk zj58 zj52 zj54)), .second, .val (.ref nz0_174), .val (.ref nz0_186), .val (.long (own_sc ia zj48 zj50)), .second, .val (.long (own_sc zj58 zj52 zj54)), .second, .val (.int zj199), .unset, .unset] []))
                      refine own_st (fun u_ k_ => XS.iconst X198.here hx rfl (hb hby at_157) k_) ?_
                      refine own_st (fun u_ k_ => XS.goto X198.here hx rfl (pc0 := 158) (pc' := 162) rfl (hb hby at_158) (by decide) (by decide) k_) ?_
                      show own_Go p e below _ (T198.setTop (mkF m 162 #[.val (.int ia), .val (.int ib), .val (.int fl), .val (.int zj48), .val (.int zj50), .val (.int zj52), .val (.int zj54), .val (.int zj56), .val (.int zj58), .val (.double (own_mk ia zj48 zj50)), .second, .val (.double (own_mk zj58 zj52 zj54)), .second, .val (.ref nz0_174), .val (.ref nz0_186), .val (.long (own_sc ia zj48 zj50)), .second, .val (.long (own_sc zj58 zj52 zj54)), .second, .val (.int zj199), .unset, .unset] [(.int (1 : Int32))]))
                      exact J202 _ (by simp [own_nz, hc223, hc224])
                  · refine own_st (fun u_ k_ => XS.ifYes X198.here hx rfl (pc0 := 149) (pc' := 161) rfl (hb hby at_149) rfl (XT.i0_ne_t hc223) (by decide) (by decide) k_) ?_
                    show own_Go p e below _ (T198.setTop (mkF m 161 #[.val (.int ia), .val (.int ib), .val (.int fl), .val (.int zj48), .val (.int zj50), .val (.int zj52), .val (.int zj54), .val (.int zj56), .val (.int zj58), .val (.double (own_mk ia zj48 zj50)), .second, .val (.double (own_mk zj58 zj52 zj54)), .second, .val (.ref nz0_174), .val (.ref nz0_186), .val (.long (own_sc ia zj48 zj50)), .second, .val (.long (own_sc zj58 zj52 zj54)), .second, .val (.int zj199), .unset, .unset] []))
                    refine own_st (fun u_ k_ => XS.iconst X198.here hx rfl (hb hby at_161) k_) ?_
                    exact J202 _ (by simp [own_nz, hc223])
              · intro J200
                refine own_st (fun u_ k_ => XS.iloadN X198.here hx rfl (hb hby at_132) rfl k_) ?_
                show own_Go p e below _ (T198.setTop (mkF m 133 #[.val (.int ia), .val (.int ib), .val (.int fl), .val (.int zj48), .val (.int zj50), .val (.int zj52), .val (.int zj54), .val (.int zj56), .val (.int zj58), .val (.double (own_mk ia zj48 zj50)), .second, .val (.double (own_mk zj58 zj52 zj54)), .second, .val (.ref nz0_174), .val (.ref nz0_186), .val (.long (own_sc ia zj48 zj50)), .second, .val (.long (own_sc zj58 zj52 zj54)), .second, .unset, .unset, .unset] [(.int ia)]))
                by_cases hc225 : ia = (0 : Int32)
                · refine own_st (fun u_ k_ => XS.ifNo X198.here hx rfl (hb hby at_133) rfl (XT.i0_ne_f hc225) k_) ?_
                  refine own_st (fun u_ k_ => XS.iloadN X198.here hx rfl (hb hby at_136) rfl k_) ?_
                  show own_Go p e below _ (T198.setTop (mkF m 137 #[.val (.int ia), .val (.int ib), .val (.int fl), .val (.int zj48), .val (.int zj50), .val (.int zj52), .val (.int zj54), .val (.int zj56), .val (.int zj58), .val (.double (own_mk ia zj48 zj50)), .second, .val (.double (own_mk zj58 zj52 zj54)), .second, .val (.ref nz0_174), .val (.ref nz0_186), .val (.long (own_sc ia zj48 zj50)), .second, .val (.long (own_sc zj58 zj52 zj54)), .second, .unset, .unset, .unset] [(.int zj48)]))
                  by_cases hc226 : zj48 = (0 : Int32)
                  · refine own_st (fun u_ k_ => XS.ifYes X198.here hx rfl (pc0 := 137) (pc' := 144) rfl (hb hby at_137) rfl (XT.i0_eq_t hc226) (by decide) (by decide) k_) ?_
                    refine own_st (fun u_ k_ => XS.iconst X198.here hx rfl (hb hby at_144) k_) ?_
                    show own_Go p e below _ (T198.setTop (mkF m 145 #[.val (.int ia), .val (.int ib), .val (.int fl), .val (.int zj48), .val (.int zj50), .val (.int zj52), .val (.int zj54), .val (.int zj56), .val (.int zj58), .val (.double (own_mk ia zj48 zj50)), .second, .val (.double (own_mk zj58 zj52 zj54)), .second, .val (.ref nz0_174), .val (.ref nz0_186), .val (.long (own_sc ia zj48 zj50)), .second, .val (.long (own_sc zj58 zj52 zj54)), .second, .unset, .unset, .unset] [(.int (0 : Int32))]))
                    exact J200 _ (by simp [own_nz, hc225, hc226])
                  · refine own_st (fun u_ k_ => XS.ifNo X198.here hx rfl (hb hby at_137) rfl (XT.i0_eq_f hc226) k_) ?_
                    refine own_st (fun u_ k_ => XS.iconst X198.here hx rfl (hb hby at_140) k_) ?_
                    show own_Go p e below _ (T198.setTop (mkF m 141 #[.val (.int ia), .val (.int ib), .val (.int fl), .val (.int zj48), .val (.int zj50), .val (.int zj52), .val (.int zj54), .val (.int zj56), .val (.int zj58), .val (.double (own_mk ia zj48 zj50)), .second, .val (.double (own_mk zj58 zj52 zj54)), .second, .val (.ref nz0_174), .val (.ref nz0_186), .val (.long (own_sc ia zj48 zj50)), .second, .val (.long (own_sc zj58 zj52 zj54)), .second, .unset, .unset, .unset] [(.int (1 : Int32))]))
                    refine own_st (fun u_ k_ => XS.goto X198.here hx rfl (pc0 := 141) (pc' := 145) rfl (hb hby at_141) (by decide) (by decide) k_) ?_
                    exact J200 _ (by simp [own_nz, hc225, hc226])
                · refine own_st (fun u_ k_ => XS.ifYes X198.here hx rfl (pc0 := 133) (pc' := 144) rfl (hb hby at_133) rfl (XT.i0_ne_t hc225) (by decide) (by decide) k_) ?_
                  refine own_st (fun u_ k_ => XS.iconst X198.here hx rfl (hb hby at_144) k_) ?_
                  show own_Go p e below _ (T198.setTop (mkF m 145 #[.val (.int ia), .val (.int ib), .val (.int fl), .val (.int zj48), .val (.int zj50), .val (.int zj52), .val (.int zj54), .val (.int zj56), .val (.int zj58), .val (.double (own_mk ia zj48 zj50)), .second, .val (.double (own_mk zj58 zj52 zj54)), .second, .val (.ref nz0_174), .val (.ref nz0_186), .val (.long (own_sc ia zj48 zj50)), .second, .val (.long (own_sc zj58 zj52 zj54)), .second, .unset, .unset, .unset] [(.int (0 : Int32))]))
                  exact J200 _ (by simp [own_nz, hc225])
            · intro J59
              refine own_st (fun u_ k_ => XS.iload X0.here hx rfl (hb hby at_66) rfl k_) ?_
              show own_Go p e below _ (s₁.setTop (mkF m 68 #[.val (.int ia), .val (.int ib), .val (.int fl), .val (.int zj48), .val (.int zj50), .val (.int zj52), .val (.int zj54), .val (.int zj56), .unset, .unset, .unset, .unset, .unset, .unset, .unset, .unset, .unset, .unset, .unset, .unset, .unset, .unset] [(.int zj56)]))
              by_cases hc227 : zj56 = (0 : Int32)
              · refine own_st (fun u_ k_ => XS.ifYes X0.here hx rfl (pc0 := 68) (pc' := 75) rfl (hb hby at_68) rfl (XT.i0_eq_t hc227) (by decide) (by decide) k_) ?_
                refine own_st (fun u_ k_ => XS.iloadN X0.here hx rfl (hb hby at_75) rfl k_) ?_
                show own_Go p e below _ (s₁.setTop (mkF m 76 #[.val (.int ia), .val (.int ib), .val (.int fl), .val (.int zj48), .val (.int zj50), .val (.int zj52), .val (.int zj54), .val (.int zj56), .unset, .unset, .unset, .unset, .unset, .unset, .unset, .unset, .unset, .unset, .unset, .unset, .unset, .unset] [(.int ib)]))
                exact J59 _ trivial
              · refine own_st (fun u_ k_ => XS.ifNo X0.here hx rfl (hb hby at_68) rfl (XT.i0_eq_f hc227) k_) ?_
                refine own_st (fun u_ k_ => XS.iloadN X0.here hx rfl (hb hby at_71) rfl k_) ?_
                show own_Go p e below _ (s₁.setTop (mkF m 72 #[.val (.int ia), .val (.int ib), .val (.int fl), .val (.int zj48), .val (.int zj50), .val (.int zj52), .val (.int zj54), .val (.int zj56), .unset, .unset, .unset, .unset, .unset, .unset, .unset, .unset, .unset, .unset, .unset, .unset, .unset, .unset] [(.int ia)]))
                refine own_st (fun u_ k_ => XS.goto X0.here hx rfl (pc0 := 72) (pc' := 76) rfl (hb hby at_72) (by decide) (by decide) k_) ?_
                exact J59 _ trivial
          · intro J57
            refine own_st (fun u_ k_ => XS.iloadN X0.here hx rfl (hb hby at_52) rfl k_) ?_
            refine own_st (fun u_ k_ => XS.bipush X0.here hx rfl (hb hby at_53) k_) ?_
            show own_Go p e below _ (s₁.setTop (mkF m 55 #[.val (.int ia), .val (.int ib), .val (.int fl), .val (.int zj48), .val (.int zj50), .val (.int zj52), .val (.int zj54), .unset, .unset, .unset, .unset, .unset, .unset, .unset, .unset, .unset, .unset, .unset, .unset, .unset, .unset, .unset] [(.int (16 : Int32)), (.int fl)]))
            refine own_st (fun u_ k_ => XS.iand X0.here hx rfl (hb hby at_55) rfl k_) ?_
            by_cases hc228 : (fl &&& (16 : Int32)) = (0 : Int32)
            · refine own_st (fun u_ k_ => XS.ifYes X0.here hx rfl (pc0 := 56) (pc' := 63) rfl (hb hby at_56) rfl (XT.i0_eq_t hc228) (by decide) (by decide) k_) ?_
              show own_Go p e below _ (s₁.setTop (mkF m 63 #[.val (.int ia), .val (.int ib), .val (.int fl), .val (.int zj48), .val (.int zj50), .val (.int zj52), .val (.int zj54), .unset, .unset, .unset, .unset, .unset, .unset, .unset, .unset, .unset, .unset, .unset, .unset, .unset, .unset, .unset] []))
              refine own_st (fun u_ k_ => XS.iconst X0.here hx rfl (hb hby at_63) k_) ?_
              exact J57 _ trivial
            · refine own_st (fun u_ k_ => XS.ifNo X0.here hx rfl (hb hby at_56) rfl (XT.i0_eq_f hc228) k_) ?_
              show own_Go p e below _ (s₁.setTop (mkF m 59 #[.val (.int ia), .val (.int ib), .val (.int fl), .val (.int zj48), .val (.int zj50), .val (.int zj52), .val (.int zj54), .unset, .unset, .unset, .unset, .unset, .unset, .unset, .unset, .unset, .unset, .unset, .unset, .unset, .unset, .unset] []))
              refine own_st (fun u_ k_ => XS.iconst X0.here hx rfl (hb hby at_59) k_) ?_
              refine own_st (fun u_ k_ => XS.goto X0.here hx rfl (pc0 := 60) (pc' := 64) rfl (hb hby at_60) (by decide) (by decide) k_) ?_
              show own_Go p e below _ (s₁.setTop (mkF m 64 #[.val (.int ia), .val (.int ib), .val (.int fl), .val (.int zj48), .val (.int zj50), .val (.int zj52), .val (.int zj54), .unset, .unset, .unset, .unset, .unset, .unset, .unset, .unset, .unset, .unset, .unset, .unset, .unset, .unset, .unset] [(.int (1 : Int32))]))
              exact J57 _ trivial
        · intro J55
          refine own_st (fun u_ k_ => XS.iloadN X0.here hx rfl (hb hby at_38) rfl k_) ?_
          show own_Go p e below _ (s₁.setTop (mkF m 39 #[.val (.int ia), .val (.int ib), .val (.int fl), .val (.int zj48), .val (.int zj50), .val (.int zj52), .unset, .unset, .unset, .unset, .unset, .unset, .unset, .unset, .unset, .unset, .unset, .unset, .unset, .unset, .unset, .unset] [(.int fl)]))
          refine own_st (fun u_ k_ => XS.bipush X0.here hx rfl (hb hby at_39) k_) ?_
          refine own_st (fun u_ k_ => XS.iand X0.here hx rfl (hb hby at_41) rfl k_) ?_
          show own_Go p e below _ (s₁.setTop (mkF m 42 #[.val (.int ia), .val (.int ib), .val (.int fl), .val (.int zj48), .val (.int zj50), .val (.int zj52), .unset, .unset, .unset, .unset, .unset, .unset, .unset, .unset, .unset, .unset, .unset, .unset, .unset, .unset, .unset, .unset] [(.int (fl &&& (8 : Int32)))]))
          by_cases hc229 : (fl &&& (8 : Int32)) = (0 : Int32)
          · refine own_st (fun u_ k_ => XS.ifYes X0.here hx rfl (pc0 := 42) (pc' := 49) rfl (hb hby at_42) rfl (XT.i0_eq_t hc229) (by decide) (by decide) k_) ?_
            refine own_st (fun u_ k_ => XS.iconst X0.here hx rfl (hb hby at_49) k_) ?_
            show own_Go p e below _ (s₁.setTop (mkF m 50 #[.val (.int ia), .val (.int ib), .val (.int fl), .val (.int zj48), .val (.int zj50), .val (.int zj52), .unset, .unset, .unset, .unset, .unset, .unset, .unset, .unset, .unset, .unset, .unset, .unset, .unset, .unset, .unset, .unset] [(.int (0 : Int32))]))
            exact J55 _ trivial
          · refine own_st (fun u_ k_ => XS.ifNo X0.here hx rfl (hb hby at_42) rfl (XT.i0_eq_f hc229) k_) ?_
            refine own_st (fun u_ k_ => XS.iconst X0.here hx rfl (hb hby at_45) k_) ?_
            show own_Go p e below _ (s₁.setTop (mkF m 46 #[.val (.int ia), .val (.int ib), .val (.int fl), .val (.int zj48), .val (.int zj50), .val (.int zj52), .unset, .unset, .unset, .unset, .unset, .unset, .unset, .unset, .unset, .unset, .unset, .unset, .unset, .unset, .unset, .unset] [(.int (1 : Int32))]))
            refine own_st (fun u_ k_ => XS.goto X0.here hx rfl (pc0 := 46) (pc' := 50) rfl (hb hby at_46) (by decide) (by decide) k_) ?_
            exact J55 _ trivial
      · intro J53
        refine own_st (fun u_ k_ => XS.iloadN X0.here hx rfl (hb hby at_25) rfl k_) ?_
        refine own_st (fun u_ k_ => XS.iconst X0.here hx rfl (hb hby at_26) k_) ?_
        show own_Go p e below _ (s₁.setTop (mkF m 27 #[.val (.int ia), .val (.int ib), .val (.int fl), .val (.int zj48), .val (.int zj50), .unset, .unset, .unset, .unset, .unset, .unset, .unset, .unset, .unset, .unset, .unset, .unset, .unset, .unset, .unset, .unset, .unset] [(.int (4 : Int32)), (.int fl)]))
        refine own_st (fun u_ k_ => XS.iand X0.here hx rfl (hb hby at_27) rfl k_) ?_
        by_cases hc230 : (fl &&& (4 : Int32)) = (0 : Int32)
        · refine own_st (fun u_ k_ => XS.ifYes X0.here hx rfl (pc0 := 28) (pc' := 35) rfl (hb hby at_28) rfl (XT.i0_eq_t hc230) (by decide) (by decide) k_) ?_
          show own_Go p e below _ (s₁.setTop (mkF m 35 #[.val (.int ia), .val (.int ib), .val (.int fl), .val (.int zj48), .val (.int zj50), .unset, .unset, .unset, .unset, .unset, .unset, .unset, .unset, .unset, .unset, .unset, .unset, .unset, .unset, .unset, .unset, .unset] []))
          refine own_st (fun u_ k_ => XS.iconst X0.here hx rfl (hb hby at_35) k_) ?_
          exact J53 _ trivial
        · refine own_st (fun u_ k_ => XS.ifNo X0.here hx rfl (hb hby at_28) rfl (XT.i0_eq_f hc230) k_) ?_
          show own_Go p e below _ (s₁.setTop (mkF m 31 #[.val (.int ia), .val (.int ib), .val (.int fl), .val (.int zj48), .val (.int zj50), .unset, .unset, .unset, .unset, .unset, .unset, .unset, .unset, .unset, .unset, .unset, .unset, .unset, .unset, .unset, .unset, .unset] []))
          refine own_st (fun u_ k_ => XS.iconst X0.here hx rfl (hb hby at_31) k_) ?_
          refine own_st (fun u_ k_ => XS.goto X0.here hx rfl (pc0 := 32) (pc' := 36) rfl (hb hby at_32) (by decide) (by decide) k_) ?_
          show own_Go p e below _ (s₁.setTop (mkF m 36 #[.val (.int ia), .val (.int ib), .val (.int fl), .val (.int zj48), .val (.int zj50), .unset, .unset, .unset, .unset, .unset, .unset, .unset, .unset, .unset, .unset, .unset, .unset, .unset, .unset, .unset, .unset, .unset] [(.int (1 : Int32))]))
          exact J53 _ trivial
    · intro J51
      refine own_st (fun u_ k_ => XS.iloadN X0.here hx rfl (hb hby at_12) rfl k_) ?_
      show own_Go p e below _ (s₁.setTop (mkF m 13 #[.val (.int ia), .val (.int ib), .val (.int fl), .val (.int zj48), .unset, .unset, .unset, .unset, .unset, .unset, .unset, .unset, .unset, .unset, .unset, .unset, .unset, .unset, .unset, .unset, .unset, .unset] [(.int fl)]))
      refine own_st (fun u_ k_ => XS.iconst X0.here hx rfl (hb hby at_13) k_) ?_
      refine own_st (fun u_ k_ => XS.iand X0.here hx rfl (hb hby at_14) rfl k_) ?_
      show own_Go p e below _ (s₁.setTop (mkF m 15 #[.val (.int ia), .val (.int ib), .val (.int fl), .val (.int zj48), .unset, .unset, .unset, .unset, .unset, .unset, .unset, .unset, .unset, .unset, .unset, .unset, .unset, .unset, .unset, .unset, .unset, .unset] [(.int (fl &&& (2 : Int32)))]))
      by_cases hc231 : (fl &&& (2 : Int32)) = (0 : Int32)
      · refine own_st (fun u_ k_ => XS.ifYes X0.here hx rfl (pc0 := 15) (pc' := 22) rfl (hb hby at_15) rfl (XT.i0_eq_t hc231) (by decide) (by decide) k_) ?_
        refine own_st (fun u_ k_ => XS.iconst X0.here hx rfl (hb hby at_22) k_) ?_
        show own_Go p e below _ (s₁.setTop (mkF m 23 #[.val (.int ia), .val (.int ib), .val (.int fl), .val (.int zj48), .unset, .unset, .unset, .unset, .unset, .unset, .unset, .unset, .unset, .unset, .unset, .unset, .unset, .unset, .unset, .unset, .unset, .unset] [(.int (0 : Int32))]))
        exact J51 _ trivial
      · refine own_st (fun u_ k_ => XS.ifNo X0.here hx rfl (hb hby at_15) rfl (XT.i0_eq_f hc231) k_) ?_
        refine own_st (fun u_ k_ => XS.iconst X0.here hx rfl (hb hby at_18) k_) ?_
        show own_Go p e below _ (s₁.setTop (mkF m 19 #[.val (.int ia), .val (.int ib), .val (.int fl), .val (.int zj48), .unset, .unset, .unset, .unset, .unset, .unset, .unset, .unset, .unset, .unset, .unset, .unset, .unset, .unset, .unset, .unset, .unset, .unset] [(.int (1 : Int32))]))
        refine own_st (fun u_ k_ => XS.goto X0.here hx rfl (pc0 := 19) (pc' := 23) rfl (hb hby at_19) (by decide) (by decide) k_) ?_
        exact J51 _ trivial
  · intro J49
    refine own_st (fun u_ k_ => XS.iloadN X0.here hx rfl (hb hby at_0) rfl k_) ?_
    refine own_st (fun u_ k_ => XS.iconst X0.here hx rfl (hb hby at_1) k_) ?_
    show own_Go p e below _ (s₁.setTop (mkF m 2 #[.val (.int ia), .val (.int ib), .val (.int fl), .unset, .unset, .unset, .unset, .unset, .unset, .unset, .unset, .unset, .unset, .unset, .unset, .unset, .unset, .unset, .unset, .unset, .unset, .unset] [(.int (1 : Int32)), (.int fl)]))
    refine own_st (fun u_ k_ => XS.iand X0.here hx rfl (hb hby at_2) rfl k_) ?_
    by_cases hc232 : (fl &&& (1 : Int32)) = (0 : Int32)
    · refine own_st (fun u_ k_ => XS.ifYes X0.here hx rfl (pc0 := 3) (pc' := 10) rfl (hb hby at_3) rfl (XT.i0_eq_t hc232) (by decide) (by decide) k_) ?_
      show own_Go p e below _ (s₁.setTop (mkF m 10 #[.val (.int ia), .val (.int ib), .val (.int fl), .unset, .unset, .unset, .unset, .unset, .unset, .unset, .unset, .unset, .unset, .unset, .unset, .unset, .unset, .unset, .unset, .unset, .unset, .unset] []))
      refine own_st (fun u_ k_ => XS.iconst X0.here hx rfl (hb hby at_10) k_) ?_
      exact J49 _ trivial
    · refine own_st (fun u_ k_ => XS.ifNo X0.here hx rfl (hb hby at_3) rfl (XT.i0_eq_f hc232) k_) ?_
      show own_Go p e below _ (s₁.setTop (mkF m 6 #[.val (.int ia), .val (.int ib), .val (.int fl), .unset, .unset, .unset, .unset, .unset, .unset, .unset, .unset, .unset, .unset, .unset, .unset, .unset, .unset, .unset, .unset, .unset, .unset, .unset] []))
      refine own_st (fun u_ k_ => XS.iconst X0.here hx rfl (hb hby at_6) k_) ?_
      refine own_st (fun u_ k_ => XS.goto X0.here hx rfl (pc0 := 7) (pc' := 11) rfl (hb hby at_7) (by decide) (by decide) k_) ?_
      show own_Go p e below _ (s₁.setTop (mkF m 11 #[.val (.int ia), .val (.int ib), .val (.int fl), .unset, .unset, .unset, .unset, .unset, .unset, .unset, .unset, .unset, .unset, .unset, .unset, .unset, .unset, .unset, .unset, .unset, .unset, .unset] [(.int (1 : Int32))]))
      exact J49 _ trivial
set_option maxRecDepth 65536 in
set_option maxHeartbeats 40000000 in
theorem comes_1 {Post : Tables → Env → Array Value → State → Outcome → State → Prop} (hpost : ∀ tb e args s v u, (limb_1_1.after args s (.returned v) u = true ∧ limb_1_2.after args s (.returned v) u = true ∧ True) → FrameEnd s (.returned v) u (Jvm.fieldLocs frame_1_writes args s ++ Jvm.arrayLocs frame_1_arrays args s ++ Jvm.staticLocs frame_1_statics s) 16 128 → Post tb e args s (.returned v) u) :
    ArmFor flags0 classFile x code maxLocals ret World_1 tables_1 room_1 Calls_1 rest_1 Pre_1 Post := by
  intro l hfl _ _ p e ha hc hk s m args below hf hA hF happ hP
  obtain ⟨hcalls, hrest, hpre⟩ := hP
  obtain ⟨-, -, -, hnamed, -, -, -, hat⟩ := (Spec.applies_iff hf).mp happ
  obtain ⟨hg, hn⟩ := and_e (Cond.before_iff.mp (show (Jvm.Cond.and given_1 narrow_1).before args s = true from hpre))
  obtain ⟨hcount, hr0⟩ := and_e hg
  obtain ⟨ha0, hr1⟩ := and_e hr0
  obtain ⟨ha1, hr2⟩ := and_e hr1
  have ha2 := hr2
  obtain ⟨w_0, w_1, w_2, rfl⟩ : ∃ w_0 w_1 w_2 : Value, args = #[w_0, w_1, w_2] := by
    have hs : args.size = 3 := by simpa [Cond.value, given_1] using hcount
    obtain ⟨L⟩ := args
    match L, hs with
    | [w_0, w_1, w_2], _ => exact ⟨w_0, w_1, w_2, rfl⟩
  have hw := fun d (hd : d ∈ tables_1) => atoms_spec (ws := Jvm.Cond.code x code maxLocals ret :: tables_1) hat d (List.mem_cons_of_mem _ hd)
  have hfit : Fit s := fun {y c} hc i hi => by
    obtain ⟨ha, rfl⟩ := Array.getElem?_eq_some_iff.mp hc
    have q := List.all_eq_true.mp ((Array.all_eq_true_iff_forall_mem.mp hF) _ (Array.getElem_mem ha)) i (List.mem_range.mpr hi)
    simpa [Array.getElem?_eq_getElem hi] using q
  obtain ⟨i_0, ei_0⟩ := is_v ha0
  obtain rfl : w_0 = (.int i_0) := Option.some.inj ei_0
  obtain ⟨i_1, ei_1⟩ := is_v ha1
  obtain rfl : w_1 = (.int i_1) := Option.some.inj ei_1
  obtain ⟨i_2, ei_2⟩ := is_v ha2
  obtain rfl : w_2 = (.int i_2) := Option.some.inj ei_2
  obtain ⟨hl0, hn0⟩ := and_e hn
  have hl1 := hn0
  obtain ⟨hsets, hown0⟩ := atoms_of _ (rest_1_c_eq ▸ (show rest_1_c.before _ s = true from hrest))
  obtain ⟨w0, e_w0⟩ := exa_v hl0
  obtain ⟨wl, e_wl⟩ := exa_v (Cond.before_iff.mp (hsets _ (List.mem_of_getElem? (i := 2) rfl)))
  obtain ⟨wp, e_wp⟩ := exa_v (Cond.before_iff.mp (hsets _ (List.mem_of_getElem? (i := 9) rfl)))
  obtain ⟨⟨c_m, k_m, mr, q_m1, q_m2, q_m3⟩, _⟩ := hcalls
  have hS : own_S s w0 wl wp mr := ⟨(Sta.start e_w0 (Or.inr ⟨(own_w hw 12 rfl), (own_w hw 13 rfl)⟩)), (Exa.start e_w0 hl0), (own_fldI e_w0 hl1), (Sta.start e_wl (Or.inl (hsets _ (List.mem_of_getElem? (i := 1) rfl)))), (Sta.start e_wp (Or.inl (hsets _ (List.mem_of_getElem? (i := 8) rfl)))), ⟨c_m, k_m, q_m1, q_m2, q_m3⟩⟩
  obtain ⟨n, o, h1, h2, h3, _, L, rfl, ⟨rfl, N, _⟩, hq⟩ := rm0 l s _ hw tables_1 w0 wl wp mr hS i_0 i_1 i_2 s.heap s.heap.size (Old.start s) p e ha hc hk s m _ below hf ((Spec.applies_iff_loose hf).mp happ).1 ⟨rfl, State.Warmed39.refl s, rfl⟩ trivial
  refine ⟨n, _, h1, h2, h3, hpost _ _ _ _ _ _ ⟨Cond.after_iff.mpr rfl, Cond.after_iff.mpr (eq_i res_at (Term.int_eval (1)) rfl), trivial⟩ ⟨hq.1, hq.2.1, (hq.2.2.sift fun y hy => Or.inr (N y hy)).mono (by decide) (by decide)⟩⟩
theorem main_1_1 : Claimed_1_1 := comes_1 fun _ _ _ _ _ _ h hF => ⟨h.1, hF⟩
theorem main_1_2 : Claimed_1_2 := comes_1 fun _ _ _ _ _ _ h hF => ⟨h.2.1, hF⟩
end Jvm.Pilot.@@N@@
namespace Jvm.Pilot.@@N@@
open Jvm Jvm.ClassFile Sem Op Lib Jvm.Free Jvm.Stand Jvm.Pilot.@@N@@.Jvm.D
/-! MADE BY PROGRAM (witnessworld.py) out of the Statement's table words and the real class files: 32 classes; the members and pool entries that the words name. The judged class is class 1, her method 1. -/
namespace start1
open Jvm.ClassFile
def u (s : String) : CpInfo := .utf8 (stringToUtf16 s)
/-- a pool by its gaps: so many unusable entries, then the entry; so many at the end -/
def gap : Nat → List CpInfo → List CpInfo
  | 0, r => r
  | n + 1, r => .unusable :: gap n r
def poolList (es : List (Nat × CpInfo)) (last : Nat) : List CpInfo := es.foldr (fun e r => gap e.1 (e.2 :: r)) (gap last [])
def pool (es : List (Nat × CpInfo)) (last : Nat) : Array CpInfo := ⟨poolList es last⟩
def fileOf (pool : Array CpInfo) (this : Nat) (attrs : Array Attribute := #[]) (ms : Array MethodInfo := #[]) (fl : Nat := 33) (sup : Nat := 0) (ifs : Array Nat := #[]) (fds : Array FieldInfo := #[]) : ClassFile where
  minorVersion := 0
  majorVersion := 65
  constantPool := pool
  accessFlags := fl
  thisClass := this
  superClass := sup
  interfaces := ifs
  fields := fds
  methods := ms
  attributes := attrs
def plain (name : String) (sup : Option ClassId) : Class where
  name := name
  kind := .ordinary
  loader := none
  accessFlags := 33
  super := sup
  interfaces := #[]
  cf := none
  fields := #[]
  methods := #[]
  instanceTypes := #[]
  staticTypes := #[]
  resolved := #[]
  callSites := []
  init := .initialized
  statics := none
  mirror := none

def pool0 : Array CpInfo := pool [(5, u "<init>"), (0, u "()V"), (1, .class_ 10), (1, u "java/lang/Object"), (0, u "getClass"), (0, u "()Ljava/lang/Class;")] 111

def k0c0 : Code := { maxStack := 0, maxLocals := 1, code := object_method_1_code, exceptionTable := #[], attributes := #[] }
def k0m0 : Method := { name := "<init>", desc := "()V", sig := { parameters := [], returnType := none }, accessFlags := 1, code := some k0c0 }
def k0m1 : Method := { name := "getClass", desc := "()Ljava/lang/Class;", sig := { parameters := [], returnType := some (.object "java/lang/Class") }, accessFlags := 273, code := none }
/-- java/lang/Object -/
def k0 : Class := { plain "java/lang/Object" none with
  accessFlags := 33
  interfaces := #[]
  cf := some (fileOf pool0 8 #[] #[{ accessFlags := 1, nameIndex := 5, descriptorIndex := 6, attributes := #[] }, { accessFlags := 273, nameIndex := 11, descriptorIndex := 12, attributes := #[] }] 33 0 #[] #[])
  fields := #[]
  methods := #[k0m0, k0m1]
  instanceTypes := #[]
  staticTypes := #[]
  resolved := Array.replicate 124 none
  statics := none }

def pool1 : Array CpInfo := pool [(2, .class_ 4), (1, u "java/lang/Object"), (0, u "<init>"), (0, u "()V"), (0, .methodref 8 9), (0, .class_ 10), (0, .nameAndType 11 12), (0, u "com/example/tasdik/tasdik/core/cbor/CborValueFloatingPinLaw"), (0, u "make"), (0, u "(IZZ)D"), (0, .methodref 14 15), (0, .class_ 16), (0, .nameAndType 17 18), (0, u "com/example/tasdik/tasdik/core/cbor/CborValue"), (0, u "floating"), (0, u "(D)Lcom/example/tasdik/tasdik/core/cbor/CborValue;"), (0, .methodref 8 20), (0, .nameAndType 21 22), (0, u "scaled"), (0, u "(IZZ)J"), (0, .methodref 14 24), (0, .nameAndType 25 26), (0, u "type"), (0, u "()Lcom/example/tasdik/tasdik/core/cbor/CborValue$Type;"), (0, .fieldref 28 29), (0, .class_ 30), (0, .nameAndType 31 32), (0, u "com/example/tasdik/tasdik/core/cbor/CborValue$Type"), (0, u "FLOAT"), (0, u "Lcom/example/tasdik/tasdik/core/cbor/CborValue$Type;"), (0, .methodref 14 34), (0, .nameAndType 35 36), (0, u "equals"), (0, u "(Ljava/lang/Object;)Z"), (0, .double 4616189618054758400), (1, .long 4), (3, u "law"), (0, u "(III)Z")] 5

def k1m0 : Method := { name := "<init>", desc := "()V", sig := { parameters := [], returnType := none }, accessFlags := 1, code := none }
def k1c1 : Code := { maxStack := 4, maxLocals := 22, code := code, exceptionTable := #[], attributes := #[] }
def k1m1 : Method := { name := "law", desc := "(III)Z", sig := { parameters := [.int, .int, .int], returnType := some .boolean }, accessFlags := 9, code := some k1c1 }
def k1c2 : Code := { maxStack := 4, maxLocals := 5, code := method_3_code, exceptionTable := #[], attributes := #[] }
def k1m2 : Method := { name := "make", desc := "(IZZ)D", sig := { parameters := [.int, .boolean, .boolean], returnType := some .double }, accessFlags := 10, code := some k1c2 }
def k1c3 : Code := { maxStack := 4, maxLocals := 5, code := method_4_code, exceptionTable := #[], attributes := #[] }
def k1m3 : Method := { name := "scaled", desc := "(IZZ)J", sig := { parameters := [.int, .boolean, .boolean], returnType := some .long }, accessFlags := 10, code := some k1c3 }
/-- com/example/tasdik/tasdik/core/cbor/CborValueFloatingPinLaw -/
def k1 : Class := { plain "com/example/tasdik/tasdik/core/cbor/CborValueFloatingPinLaw" (some 0) with
  accessFlags := 49
  interfaces := #[]
  cf := some (fileOf pool1 8 #[] #[{ accessFlags := 1, nameIndex := 5, descriptorIndex := 6, attributes := #[] }, { accessFlags := 9, nameIndex := 43, descriptorIndex := 44, attributes := #[] }, { accessFlags := 10, nameIndex := 11, descriptorIndex := 12, attributes := #[] }, { accessFlags := 10, nameIndex := 21, descriptorIndex := 22, attributes := #[] }] 49 2 #[] #[])
  fields := #[]
  methods := #[k1m0, k1m1, k1m2, k1m3]
  instanceTypes := #[]
  staticTypes := #[]
  resolved := Array.replicate 50 none
  statics := none }

def pool2 : Array CpInfo := pool [(1, .methodref 2 3), (0, .class_ 4), (0, .nameAndType 5 6), (0, u "java/lang/Object"), (0, u "<init>"), (0, u "()V"), (0, .fieldref 8 9), (0, .class_ 10), (0, .nameAndType 11 12), (0, u "com/example/tasdik/tasdik/core/cbor/CborValue"), (0, u "type"), (0, u "Lcom/example/tasdik/tasdik/core/cbor/CborValue$Type;"), (0, .fieldref 8 14), (0, .nameAndType 15 16), (0, u "number"), (0, u "Ljava/math/BigInteger;"), (0, .fieldref 8 18), (0, .nameAndType 19 20), (0, u "floatValue"), (0, u "D"), (0, .fieldref 8 22), (0, .nameAndType 23 24), (0, u "bytes"), (0, u "[B"), (0, .fieldref 8 26), (0, .nameAndType 27 28), (0, u "text"), (0, u "Ljava/lang/String;"), (0, .fieldref 8 30), (0, .nameAndType 31 32), (0, u "items"), (0, u "Ljava/util/List;"), (0, .fieldref 8 34), (0, .nameAndType 35 36), (0, u "entries"), (0, u "Ljava/util/Map;"), (7, .class_ 46), (1, u "com/example/tasdik/tasdik/core/cbor/CborValue$Type"), (1, .interfaceMethodref 49 50), (0, .class_ 51), (0, .nameAndType 52 53), (0, u "java/util/List"), (0, u "of"), (0, u "()Ljava/util/List;"), (0, .interfaceMethodref 55 56), (0, .class_ 57), (0, .nameAndType 52 58), (0, u "java/util/Map"), (0, u "()Ljava/util/Map;"), (0, .methodref 8 60), (0, .nameAndType 5 61), (0, u "(Lcom/example/tasdik/tasdik/core/cbor/CborValue$Type;Ljava/math/BigInteger;D[BLjava/lang/String;Ljava/util/List;Ljava/util/Map;)V"), (49, .fieldref 44 112), (0, .nameAndType 113 12), (0, u "FLOAT"), (23, .methodref 8 138), (0, .nameAndType 139 140), (0, u "compare"), (0, u "(Lcom/example/tasdik/tasdik/core/cbor/CborValue;Lcom/example/tasdik/tasdik/core/cbor/CborValue;)I"), (1, .class_ 144), (1, u "java/lang/Double"), (24, .methodref 44 170), (0, .nameAndType 171 172), (0, u "compareTo"), (0, u "(Ljava/lang/Enum;)I"), (0, .methodref 44 174), (0, .nameAndType 175 176), (0, u "ordinal"), (0, u "()I"), (22, u "equals"), (0, u "(Ljava/lang/Object;)Z"), (0, .methodref 142 202), (0, .nameAndType 139 203), (0, u "(DD)I"), (54, u "ORDER"), (0, u "Ljava/util/Comparator;"), (23, u "floating"), (0, u "(D)Lcom/example/tasdik/tasdik/core/cbor/CborValue;"), (0, u "()Lcom/example/tasdik/tasdik/core/cbor/CborValue$Type;")] 40

def k2c0 : Code := { maxStack := 3, maxLocals := 9, code := prog_21_method_1_code, exceptionTable := #[], attributes := #[] }
def k2m0 : Method := { name := "<init>", desc := "(Lcom/example/tasdik/tasdik/core/cbor/CborValue$Type;Ljava/math/BigInteger;D[BLjava/lang/String;Ljava/util/List;Ljava/util/Map;)V", sig := { parameters := [(.object "com/example/tasdik/tasdik/core/cbor/CborValue$Type"), (.object "java/math/BigInteger"), .double, (.array .byte), (.object "java/lang/String"), (.object "java/util/List"), (.object "java/util/Map")], returnType := none }, accessFlags := 2, code := some k2c0 }
def k2c1 : Code := { maxStack := 10, maxLocals := 2, code := prog_21_method_10_code, exceptionTable := #[], attributes := #[] }
def k2m1 : Method := { name := "floating", desc := "(D)Lcom/example/tasdik/tasdik/core/cbor/CborValue;", sig := { parameters := [.double], returnType := some (.object "com/example/tasdik/tasdik/core/cbor/CborValue") }, accessFlags := 8, code := some k2c1 }
def k2c2 : Code := { maxStack := 1, maxLocals := 1, code := prog_21_method_11_code, exceptionTable := #[], attributes := #[] }
def k2m2 : Method := { name := "type", desc := "()Lcom/example/tasdik/tasdik/core/cbor/CborValue$Type;", sig := { parameters := [], returnType := some (.object "com/example/tasdik/tasdik/core/cbor/CborValue$Type") }, accessFlags := 1, code := some k2c2 }
def k2c3 : Code := { maxStack := 2, maxLocals := 3, code := prog_21_method_16_code, exceptionTable := #[], attributes := #[] }
def k2m3 : Method := { name := "equals", desc := "(Ljava/lang/Object;)Z", sig := { parameters := [(.object "java/lang/Object")], returnType := some .boolean }, accessFlags := 1, code := some k2c3 }
def k2c4 : Code := { maxStack := 4, maxLocals := 3, code := prog_21_method_18_code, exceptionTable := #[], attributes := #[] }
def k2m4 : Method := { name := "compare", desc := "(Lcom/example/tasdik/tasdik/core/cbor/CborValue;Lcom/example/tasdik/tasdik/core/cbor/CborValue;)I", sig := { parameters := [(.object "com/example/tasdik/tasdik/core/cbor/CborValue"), (.object "com/example/tasdik/tasdik/core/cbor/CborValue")], returnType := some .int }, accessFlags := 10, code := some k2c4 }
/-- com/example/tasdik/tasdik/core/cbor/CborValue -/
def k2 : Class := { plain "com/example/tasdik/tasdik/core/cbor/CborValue" (some 0) with
  accessFlags := 49
  interfaces := #[]
  cf := some (fileOf pool2 8 #[.nestMembers #[44]] #[{ accessFlags := 2, nameIndex := 5, descriptorIndex := 61, attributes := #[] }, { accessFlags := 8, nameIndex := 283, descriptorIndex := 284, attributes := #[] }, { accessFlags := 1, nameIndex := 11, descriptorIndex := 285, attributes := #[] }, { accessFlags := 1, nameIndex := 199, descriptorIndex := 200, attributes := #[] }, { accessFlags := 10, nameIndex := 139, descriptorIndex := 140, attributes := #[] }] 49 2 #[] #[{ accessFlags := 24, nameIndex := 258, descriptorIndex := 259, attributes := #[] }, { accessFlags := 18, nameIndex := 11, descriptorIndex := 12, attributes := #[] }, { accessFlags := 18, nameIndex := 15, descriptorIndex := 16, attributes := #[] }, { accessFlags := 18, nameIndex := 19, descriptorIndex := 20, attributes := #[] }, { accessFlags := 18, nameIndex := 23, descriptorIndex := 24, attributes := #[] }, { accessFlags := 18, nameIndex := 27, descriptorIndex := 28, attributes := #[] }, { accessFlags := 18, nameIndex := 31, descriptorIndex := 32, attributes := #[] }, { accessFlags := 18, nameIndex := 35, descriptorIndex := 36, attributes := #[] }])
  fields := #[{ name := "ORDER", type := (.object "java/util/Comparator"), accessFlags := 24, slot := 0, constantValue := 0 }, { name := "type", type := (.object "com/example/tasdik/tasdik/core/cbor/CborValue$Type"), accessFlags := 18, slot := 0, constantValue := 0 }, { name := "number", type := (.object "java/math/BigInteger"), accessFlags := 18, slot := 1, constantValue := 0 }, { name := "floatValue", type := .double, accessFlags := 18, slot := 2, constantValue := 0 }, { name := "bytes", type := (.array .byte), accessFlags := 18, slot := 3, constantValue := 0 }, { name := "text", type := (.object "java/lang/String"), accessFlags := 18, slot := 4, constantValue := 0 }, { name := "items", type := (.object "java/util/List"), accessFlags := 18, slot := 5, constantValue := 0 }, { name := "entries", type := (.object "java/util/Map"), accessFlags := 18, slot := 6, constantValue := 0 }]
  methods := #[k2m0, k2m1, k2m2, k2m3, k2m4]
  instanceTypes := #[(.object "com/example/tasdik/tasdik/core/cbor/CborValue$Type"), (.object "java/math/BigInteger"), .double, (.array .byte), (.object "java/lang/String"), (.object "java/util/List"), (.object "java/util/Map")]
  staticTypes := #[(.object "java/util/Comparator")]
  resolved := Array.replicate 326 none
  statics := none }

def pool3 : Array CpInfo := pool [(1, .class_ 2), (0, u "java/lang/constant/Constable"), (0, .class_ 4), (0, u "java/lang/Object")] 6

/-- java/lang/constant/Constable -/
def k3 : Class := { plain "java/lang/constant/Constable" (some 0) with
  accessFlags := 1537
  interfaces := #[]
  cf := some (fileOf pool3 1 #[] #[] 1537 3 #[] #[])
  fields := #[]
  methods := #[]
  instanceTypes := #[]
  staticTypes := #[]
  resolved := Array.replicate 11 none
  statics := none }

def pool4 : Array CpInfo := pool [(1, .class_ 2), (0, u "java/lang/Comparable"), (0, .class_ 4), (0, u "java/lang/Object")] 7

/-- java/lang/Comparable -/
def k4 : Class := { plain "java/lang/Comparable" (some 0) with
  accessFlags := 1537
  interfaces := #[]
  cf := some (fileOf pool4 1 #[] #[] 1537 3 #[] #[])
  fields := #[]
  methods := #[]
  instanceTypes := #[]
  staticTypes := #[]
  resolved := Array.replicate 12 none
  statics := none }

def pool5 : Array CpInfo := pool [(1, .class_ 2), (0, u "java/io/Serializable"), (0, .class_ 4), (0, u "java/lang/Object")] 2

/-- java/io/Serializable -/
def k5 : Class := { plain "java/io/Serializable" (some 0) with
  accessFlags := 1537
  interfaces := #[]
  cf := some (fileOf pool5 1 #[] #[] 1537 3 #[] #[])
  fields := #[]
  methods := #[]
  instanceTypes := #[]
  staticTypes := #[]
  resolved := Array.replicate 7 none
  statics := none }

def pool6 : Array CpInfo := pool [(2, .class_ 4), (1, u "java/lang/Enum"), (0, u "name"), (0, u "Ljava/lang/String;"), (0, .fieldref 2 8), (0, .nameAndType 9 10), (0, u "ordinal"), (0, u "I"), (1, .class_ 14), (1, u "java/lang/Object"), (4, u "hash"), (9, .methodref 12 30), (0, .nameAndType 31 32), (0, u "getClass"), (0, u "()Ljava/lang/Class;"), (70, u "compareTo"), (0, u "(Ljava/lang/Enum;)I"), (1, .class_ 108), (1, u "java/lang/Enum$EnumDesc"), (2, .class_ 112), (0, u "java/lang/constant/Constable"), (0, .class_ 114), (0, u "java/lang/Comparable"), (0, .class_ 116), (0, u "java/io/Serializable"), (9, u "()I")] 77

def k6c0 : Code := { maxStack := 1, maxLocals := 1, code := jdk_37_method_2_code, exceptionTable := #[], attributes := #[] }
def k6m0 : Method := { name := "ordinal", desc := "()I", sig := { parameters := [], returnType := some .int }, accessFlags := 17, code := some k6c0 }
def k6c1 : Code := { maxStack := 2, maxLocals := 4, code := jdk_37_method_8_code, exceptionTable := #[], attributes := #[] }
def k6m1 : Method := { name := "compareTo", desc := "(Ljava/lang/Enum;)I", sig := { parameters := [(.object "java/lang/Enum")], returnType := some .int }, accessFlags := 17, code := some k6c1 }
/-- java/lang/Enum -/
def k6 : Class := { plain "java/lang/Enum" (some 0) with
  accessFlags := 1057
  interfaces := #[3, 4, 5]
  cf := some (fileOf pool6 2 #[.nestMembers #[106]] #[{ accessFlags := 17, nameIndex := 9, descriptorIndex := 126, attributes := #[] }, { accessFlags := 17, nameIndex := 103, descriptorIndex := 104, attributes := #[] }] 1057 12 #[111, 113, 115] #[{ accessFlags := 18, nameIndex := 5, descriptorIndex := 6, attributes := #[] }, { accessFlags := 18, nameIndex := 9, descriptorIndex := 10, attributes := #[] }, { accessFlags := 2, nameIndex := 19, descriptorIndex := 10, attributes := #[] }])
  fields := #[{ name := "name", type := (.object "java/lang/String"), accessFlags := 18, slot := 0, constantValue := 0 }, { name := "ordinal", type := .int, accessFlags := 18, slot := 1, constantValue := 0 }, { name := "hash", type := .int, accessFlags := 2, slot := 2, constantValue := 0 }]
  methods := #[k6m0, k6m1]
  instanceTypes := #[(.object "java/lang/String"), .int, .int]
  staticTypes := #[]
  resolved := Array.replicate 204 none
  statics := none }

def pool7 : Array CpInfo := pool [(1, .class_ 2), (0, u "com/example/tasdik/tasdik/core/cbor/CborValue$Type"), (2, u "INTEGER"), (0, u "Lcom/example/tasdik/tasdik/core/cbor/CborValue$Type;"), (2, u "BYTE_STRING"), (2, u "TEXT_STRING"), (2, u "ARRAY"), (2, u "MAP"), (2, u "TAG"), (2, u "SIMPLE"), (2, u "FLOAT"), (2, u "$VALUES"), (0, u "[Lcom/example/tasdik/tasdik/core/cbor/CborValue$Type;"), (6, .class_ 40), (1, u "java/lang/Enum"), (31, .class_ 73), (0, u "com/example/tasdik/tasdik/core/cbor/CborValue")] 2

/-- com/example/tasdik/tasdik/core/cbor/CborValue$Type -/
def k7 : Class := { plain "com/example/tasdik/tasdik/core/cbor/CborValue$Type" (some 6) with
  accessFlags := 16433
  interfaces := #[]
  cf := some (fileOf pool7 1 #[.nestHost 72] #[] 16433 38 #[] #[{ accessFlags := 16409, nameIndex := 5, descriptorIndex := 6, attributes := #[] }, { accessFlags := 16409, nameIndex := 9, descriptorIndex := 6, attributes := #[] }, { accessFlags := 16409, nameIndex := 12, descriptorIndex := 6, attributes := #[] }, { accessFlags := 16409, nameIndex := 15, descriptorIndex := 6, attributes := #[] }, { accessFlags := 16409, nameIndex := 18, descriptorIndex := 6, attributes := #[] }, { accessFlags := 16409, nameIndex := 21, descriptorIndex := 6, attributes := #[] }, { accessFlags := 16409, nameIndex := 24, descriptorIndex := 6, attributes := #[] }, { accessFlags := 16409, nameIndex := 27, descriptorIndex := 6, attributes := #[] }, { accessFlags := 4122, nameIndex := 30, descriptorIndex := 31, attributes := #[] }])
  fields := #[{ name := "INTEGER", type := (.object "com/example/tasdik/tasdik/core/cbor/CborValue$Type"), accessFlags := 16409, slot := 0, constantValue := 0 }, { name := "BYTE_STRING", type := (.object "com/example/tasdik/tasdik/core/cbor/CborValue$Type"), accessFlags := 16409, slot := 1, constantValue := 0 }, { name := "TEXT_STRING", type := (.object "com/example/tasdik/tasdik/core/cbor/CborValue$Type"), accessFlags := 16409, slot := 2, constantValue := 0 }, { name := "ARRAY", type := (.object "com/example/tasdik/tasdik/core/cbor/CborValue$Type"), accessFlags := 16409, slot := 3, constantValue := 0 }, { name := "MAP", type := (.object "com/example/tasdik/tasdik/core/cbor/CborValue$Type"), accessFlags := 16409, slot := 4, constantValue := 0 }, { name := "TAG", type := (.object "com/example/tasdik/tasdik/core/cbor/CborValue$Type"), accessFlags := 16409, slot := 5, constantValue := 0 }, { name := "SIMPLE", type := (.object "com/example/tasdik/tasdik/core/cbor/CborValue$Type"), accessFlags := 16409, slot := 6, constantValue := 0 }, { name := "FLOAT", type := (.object "com/example/tasdik/tasdik/core/cbor/CborValue$Type"), accessFlags := 16409, slot := 7, constantValue := 0 }, { name := "$VALUES", type := (.array (.object "com/example/tasdik/tasdik/core/cbor/CborValue$Type")), accessFlags := 4122, slot := 8, constantValue := 0 }]
  methods := #[]
  instanceTypes := #[(.object "java/lang/String"), .int, .int]
  staticTypes := #[(.object "com/example/tasdik/tasdik/core/cbor/CborValue$Type"), (.object "com/example/tasdik/tasdik/core/cbor/CborValue$Type"), (.object "com/example/tasdik/tasdik/core/cbor/CborValue$Type"), (.object "com/example/tasdik/tasdik/core/cbor/CborValue$Type"), (.object "com/example/tasdik/tasdik/core/cbor/CborValue$Type"), (.object "com/example/tasdik/tasdik/core/cbor/CborValue$Type"), (.object "com/example/tasdik/tasdik/core/cbor/CborValue$Type"), (.object "com/example/tasdik/tasdik/core/cbor/CborValue$Type"), (.array (.object "com/example/tasdik/tasdik/core/cbor/CborValue$Type"))]
  resolved := Array.replicate 76 none
  mirror := some 2
  statics := some 0 }

def pool8 : Array CpInfo := pool [(8, .class_ 10), (1, u "java/lang/Iterable"), (24, .class_ 36), (0, u "java/lang/Object")] 25

/-- java/lang/Iterable -/
def k8 : Class := { plain "java/lang/Iterable" (some 0) with
  accessFlags := 1537
  interfaces := #[]
  cf := some (fileOf pool8 8 #[] #[] 1537 35 #[] #[])
  fields := #[]
  methods := #[]
  instanceTypes := #[]
  staticTypes := #[]
  resolved := Array.replicate 62 none
  statics := none }

def pool9 : Array CpInfo := pool [(10, .class_ 12), (1, u "java/util/Collection"), (47, .class_ 61), (0, u "java/lang/Object"), (0, .class_ 63), (0, u "java/lang/Iterable")] 51

/-- java/util/Collection -/
def k9 : Class := { plain "java/util/Collection" (some 0) with
  accessFlags := 1537
  interfaces := #[8]
  cf := some (fileOf pool9 10 #[] #[] 1537 60 #[62] #[])
  fields := #[]
  methods := #[]
  instanceTypes := #[]
  staticTypes := #[]
  resolved := Array.replicate 115 none
  statics := none }

def pool10 : Array CpInfo := pool [(8, .class_ 10), (1, u "java/util/SequencedCollection"), (15, .class_ 27), (0, u "java/lang/Object"), (0, .class_ 29), (0, u "java/util/Collection")] 27

/-- java/util/SequencedCollection -/
def k10 : Class := { plain "java/util/SequencedCollection" (some 0) with
  accessFlags := 1537
  interfaces := #[9]
  cf := some (fileOf pool10 8 #[] #[] 1537 26 #[28] #[])
  fields := #[]
  methods := #[]
  instanceTypes := #[]
  staticTypes := #[]
  resolved := Array.replicate 57 none
  statics := none }

def pool11 : Array CpInfo := pool [(8, .class_ 10), (1, u "java/util/List"), (77, u "of"), (1, .fieldref 91 92), (0, .class_ 93), (0, .nameAndType 94 95), (0, u "java/util/ImmutableCollections"), (0, u "EMPTY_LIST"), (0, u "Ljava/util/ImmutableCollections$ListN;"), (7, .class_ 104), (0, u "java/lang/Object"), (14, u "()Ljava/util/List;"), (0, .class_ 121), (0, u "java/util/SequencedCollection")] 129

def k11c0 : Code := { maxStack := 1, maxLocals := 0, code := jdk_40_method_36_code, exceptionTable := #[], attributes := #[] }
def k11m0 : Method := { name := "of", desc := "()Ljava/util/List;", sig := { parameters := [], returnType := some (.object "java/util/List") }, accessFlags := 9, code := some k11c0 }
/-- java/util/List -/
def k11 : Class := { plain "java/util/List" (some 0) with
  accessFlags := 1537
  interfaces := #[10]
  cf := some (fileOf pool11 8 #[] #[{ accessFlags := 9, nameIndex := 88, descriptorIndex := 119, attributes := #[] }] 1537 103 #[120] #[])
  fields := #[]
  methods := #[k11m0]
  instanceTypes := #[]
  staticTypes := #[]
  resolved := Array.replicate 251 none
  statics := none }

def pool12 : Array CpInfo := pool [(2, .class_ 4), (1, u "java/lang/Object"), (0, u "<init>"), (0, u "()V"), (3, .class_ 11), (0, u "java/util/ImmutableCollections$List12"), (0, .class_ 13), (0, u "java/util/ImmutableCollections$ListN"), (3, u "Z"), (29, .class_ 49), (1, u "java/util/ImmutableCollections"), (0, u "$assertionsDisabled"), (5, u "[Ljava/lang/Object;"), (5, u "EMPTY_LIST"), (0, u "Ljava/util/ImmutableCollections$ListN;"), (8, u "EMPTY_LIST_NULLS"), (22, u "SALT32L"), (0, u "J"), (2, u "REVERSE"), (6, u "archivedObjects"), (2, u "EMPTY"), (0, u "Ljava/lang/Object;"), (0, .class_ 112), (0, u "java/util/ImmutableCollections$SetN"), (5, u "EMPTY_SET"), (0, u "Ljava/util/ImmutableCollections$SetN;"), (0, .class_ 121), (0, u "java/util/ImmutableCollections$MapN"), (3, u "EMPTY_MAP"), (0, u "Ljava/util/ImmutableCollections$MapN;"), (4, u "EXPAND_FACTOR"), (0, u "I"), (36, .class_ 170), (0, u "java/util/ImmutableCollections$MapN$MapNIterator"), (0, .class_ 172), (0, u "java/util/ImmutableCollections$MapN$1"), (0, .class_ 174), (0, u "java/util/ImmutableCollections$Map1"), (0, .class_ 176), (0, u "java/util/ImmutableCollections$AbstractImmutableMap"), (0, .class_ 178), (0, u "java/util/ImmutableCollections$SetN$SetNIterator"), (0, .class_ 180), (0, u "java/util/ImmutableCollections$Set12"), (0, .class_ 182), (0, u "java/util/ImmutableCollections$Set12$1"), (0, .class_ 184), (0, u "java/util/ImmutableCollections$AbstractImmutableSet"), (0, .class_ 186), (0, u "java/util/ImmutableCollections$SubList"), (0, .class_ 188), (0, u "java/util/ImmutableCollections$ListItr"), (0, .class_ 190), (0, u "java/util/ImmutableCollections$AbstractImmutableList"), (0, .class_ 192), (0, u "java/util/ImmutableCollections$AbstractImmutableCollection"), (0, .class_ 194), (0, u "java/util/ImmutableCollections$Access"), (0, .class_ 196), (0, u "java/util/ImmutableCollections$Access$1")] 16

def k12m0 : Method := { name := "<init>", desc := "()V", sig := { parameters := [], returnType := none }, accessFlags := 2, code := none }
/-- java/util/ImmutableCollections -/
def k12 : Class := { plain "java/util/ImmutableCollections" (some 0) with
  accessFlags := 32
  interfaces := #[]
  cf := some (fileOf pool12 47 #[.nestMembers #[120, 169, 171, 173, 175, 111, 177, 179, 181, 183, 12, 10, 185, 187, 189, 191, 193, 195]] #[{ accessFlags := 2, nameIndex := 5, descriptorIndex := 6, attributes := #[] }] 32 2 #[] #[{ accessFlags := 26, nameIndex := 95, descriptorIndex := 96, attributes := #[] }, { accessFlags := 26, nameIndex := 99, descriptorIndex := 17, attributes := #[] }, { accessFlags := 10, nameIndex := 106, descriptorIndex := 56, attributes := #[] }, { accessFlags := 26, nameIndex := 109, descriptorIndex := 110, attributes := #[] }, { accessFlags := 24, nameIndex := 62, descriptorIndex := 63, attributes := #[] }, { accessFlags := 24, nameIndex := 72, descriptorIndex := 63, attributes := #[] }, { accessFlags := 24, nameIndex := 118, descriptorIndex := 119, attributes := #[] }, { accessFlags := 24, nameIndex := 125, descriptorIndex := 126, attributes := #[] }, { accessFlags := 24, nameIndex := 131, descriptorIndex := 132, attributes := #[] }, { accessFlags := 4120, nameIndex := 50, descriptorIndex := 17, attributes := #[] }])
  fields := #[{ name := "SALT32L", type := .long, accessFlags := 26, slot := 0, constantValue := 0 }, { name := "REVERSE", type := .boolean, accessFlags := 26, slot := 1, constantValue := 0 }, { name := "archivedObjects", type := (.array (.object "java/lang/Object")), accessFlags := 10, slot := 2, constantValue := 0 }, { name := "EMPTY", type := (.object "java/lang/Object"), accessFlags := 26, slot := 3, constantValue := 0 }, { name := "EMPTY_LIST", type := (.object "java/util/ImmutableCollections$ListN"), accessFlags := 24, slot := 4, constantValue := 0 }, { name := "EMPTY_LIST_NULLS", type := (.object "java/util/ImmutableCollections$ListN"), accessFlags := 24, slot := 5, constantValue := 0 }, { name := "EMPTY_SET", type := (.object "java/util/ImmutableCollections$SetN"), accessFlags := 24, slot := 6, constantValue := 0 }, { name := "EMPTY_MAP", type := (.object "java/util/ImmutableCollections$MapN"), accessFlags := 24, slot := 7, constantValue := 0 }, { name := "EXPAND_FACTOR", type := .int, accessFlags := 24, slot := 8, constantValue := 0 }, { name := "$assertionsDisabled", type := .boolean, accessFlags := 4120, slot := 9, constantValue := 0 }]
  methods := #[k12m0]
  instanceTypes := #[]
  staticTypes := #[.long, .boolean, (.array (.object "java/lang/Object")), (.object "java/lang/Object"), (.object "java/util/ImmutableCollections$ListN"), (.object "java/util/ImmutableCollections$ListN"), (.object "java/util/ImmutableCollections$SetN"), (.object "java/util/ImmutableCollections$MapN"), .int, .boolean]
  resolved := Array.replicate 213 none
  statics := some 1 }

def pool13 : Array CpInfo := pool [(2, .class_ 4), (1, u "java/util/Map"), (31, .class_ 37), (0, u "java/util/Map$Entry"), (43, .fieldref 82 83), (0, .class_ 84), (0, .nameAndType 85 86), (0, u "java/util/ImmutableCollections"), (0, u "EMPTY_MAP"), (0, u "Ljava/util/ImmutableCollections$MapN;"), (6, .class_ 94), (0, u "java/lang/Object"), (13, u "of"), (0, u "()Ljava/util/Map;")] 153

def k13c0 : Code := { maxStack := 1, maxLocals := 0, code := jdk_72_method_26_code, exceptionTable := #[], attributes := #[] }
def k13m0 : Method := { name := "of", desc := "()Ljava/util/Map;", sig := { parameters := [], returnType := some (.object "java/util/Map") }, accessFlags := 9, code := some k13c0 }
/-- java/util/Map -/
def k13 : Class := { plain "java/util/Map" (some 0) with
  accessFlags := 1537
  interfaces := #[]
  cf := some (fileOf pool13 2 #[.nestMembers #[36]] #[{ accessFlags := 9, nameIndex := 108, descriptorIndex := 109, attributes := #[] }] 1537 93 #[] #[])
  fields := #[]
  methods := #[k13m0]
  instanceTypes := #[]
  staticTypes := #[]
  resolved := Array.replicate 263 none
  statics := none }

def pool14 : Array CpInfo := pool [(2, .class_ 4), (1, u "java/lang/Object"), (0, u "<init>"), (0, u "()V"), (1, .class_ 10), (1, u "java/lang/Number"), (2, .class_ 14), (0, u "java/io/Serializable"), (0, u "serialVersionUID"), (0, u "J")] 20

def k14m0 : Method := { name := "<init>", desc := "()V", sig := { parameters := [], returnType := none }, accessFlags := 1, code := none }
/-- java/lang/Number -/
def k14 : Class := { plain "java/lang/Number" (some 0) with
  accessFlags := 1057
  interfaces := #[5]
  cf := some (fileOf pool14 8 #[] #[{ accessFlags := 1, nameIndex := 5, descriptorIndex := 6, attributes := #[] }] 1057 2 #[13] #[{ accessFlags := 26, nameIndex := 15, descriptorIndex := 16, attributes := #[] }])
  fields := #[{ name := "serialVersionUID", type := .long, accessFlags := 26, slot := 0, constantValue := 0 }]
  methods := #[k14m0]
  instanceTypes := #[]
  staticTypes := #[.long]
  resolved := Array.replicate 37 none
  statics := none }

def pool15 : Array CpInfo := pool [(1, .class_ 2), (0, u "java/lang/constant/ConstantDesc"), (0, .class_ 4), (0, u "java/lang/Object")] 32

/-- java/lang/constant/ConstantDesc -/
def k15 : Class := { plain "java/lang/constant/ConstantDesc" (some 0) with
  accessFlags := 1537
  interfaces := #[]
  cf := some (fileOf pool15 1 #[] #[] 1537 3 #[] #[])
  fields := #[]
  methods := #[]
  instanceTypes := #[]
  staticTypes := #[]
  resolved := Array.replicate 37 none
  statics := none }

def pool16 : Array CpInfo := pool [(1, .class_ 2), (0, u "java/lang/Double"), (11, u "(D)Z"), (31, .methodref 1 47), (0, .nameAndType 48 49), (0, u "doubleToLongBits"), (0, u "(D)J"), (64, .class_ 116), (1, u "java/lang/Number"), (3, u "value"), (0, u "D"), (0, .methodref 1 123), (0, .nameAndType 124 14), (0, u "isNaN"), (9, .methodref 1 135), (0, .nameAndType 136 49), (0, u "doubleToRawLongBits"), (4, u "compare"), (0, u "(DD)I"), (30, u "TYPE"), (0, u "Ljava/lang/Class;"), (0, .class_ 176), (0, u "java/lang/Comparable"), (0, .class_ 178), (0, u "java/lang/constant/Constable"), (0, .class_ 180), (0, u "java/lang/constant/ConstantDesc"), (0, u "POSITIVE_INFINITY"), (3, u "NEGATIVE_INFINITY"), (2, u "NaN"), (2, u "MAX_VALUE"), (0, u "MIN_NORMAL"), (0, u "MIN_VALUE"), (2, u "SIZE"), (0, u "I"), (1, u "PRECISION"), (1, u "MAX_EXPONENT"), (1, u "MIN_EXPONENT"), (1, u "BYTES"), (3, u "serialVersionUID"), (0, u "J")] 79

def k16c0 : Code := { maxStack := 4, maxLocals := 2, code := jdk_117_method_6_code, exceptionTable := #[], attributes := #[] }
def k16m0 : Method := { name := "isNaN", desc := "(D)Z", sig := { parameters := [.double], returnType := some .boolean }, accessFlags := 9, code := some k16c0 }
def k16c1 : Code := { maxStack := 2, maxLocals := 2, code := jdk_117_method_23_code, exceptionTable := #[], attributes := #[] }
def k16m1 : Method := { name := "doubleToLongBits", desc := "(D)J", sig := { parameters := [.double], returnType := some .long }, accessFlags := 9, code := some k16c1 }
def k16m2 : Method := { name := "doubleToRawLongBits", desc := "(D)J", sig := { parameters := [.double], returnType := some .long }, accessFlags := 265, code := none }
def k16c3 : Code := { maxStack := 4, maxLocals := 8, code := jdk_117_method_27_code, exceptionTable := #[], attributes := #[] }
def k16m3 : Method := { name := "compare", desc := "(DD)I", sig := { parameters := [.double, .double], returnType := some .int }, accessFlags := 9, code := some k16c3 }
/-- java/lang/Double -/
def k16 : Class := { plain "java/lang/Double" (some 14) with
  accessFlags := 49
  interfaces := #[4, 3, 15]
  cf := some (fileOf pool16 1 #[] #[{ accessFlags := 9, nameIndex := 124, descriptorIndex := 14, attributes := #[] }, { accessFlags := 9, nameIndex := 48, descriptorIndex := 49, attributes := #[] }, { accessFlags := 265, nameIndex := 136, descriptorIndex := 49, attributes := #[] }, { accessFlags := 9, nameIndex := 141, descriptorIndex := 142, attributes := #[] }] 49 114 #[175, 177, 179] #[{ accessFlags := 25, nameIndex := 181, descriptorIndex := 121, attributes := #[] }, { accessFlags := 25, nameIndex := 185, descriptorIndex := 121, attributes := #[] }, { accessFlags := 25, nameIndex := 188, descriptorIndex := 121, attributes := #[] }, { accessFlags := 25, nameIndex := 191, descriptorIndex := 121, attributes := #[] }, { accessFlags := 25, nameIndex := 192, descriptorIndex := 121, attributes := #[] }, { accessFlags := 25, nameIndex := 193, descriptorIndex := 121, attributes := #[] }, { accessFlags := 25, nameIndex := 196, descriptorIndex := 197, attributes := #[] }, { accessFlags := 25, nameIndex := 199, descriptorIndex := 197, attributes := #[] }, { accessFlags := 25, nameIndex := 201, descriptorIndex := 197, attributes := #[] }, { accessFlags := 25, nameIndex := 203, descriptorIndex := 197, attributes := #[] }, { accessFlags := 25, nameIndex := 205, descriptorIndex := 197, attributes := #[] }, { accessFlags := 25, nameIndex := 173, descriptorIndex := 174, attributes := #[] }, { accessFlags := 18, nameIndex := 120, descriptorIndex := 121, attributes := #[] }, { accessFlags := 26, nameIndex := 209, descriptorIndex := 210, attributes := #[] }])
  fields := #[{ name := "POSITIVE_INFINITY", type := .double, accessFlags := 25, slot := 0, constantValue := 0 }, { name := "NEGATIVE_INFINITY", type := .double, accessFlags := 25, slot := 1, constantValue := 0 }, { name := "NaN", type := .double, accessFlags := 25, slot := 2, constantValue := 0 }, { name := "MAX_VALUE", type := .double, accessFlags := 25, slot := 3, constantValue := 0 }, { name := "MIN_NORMAL", type := .double, accessFlags := 25, slot := 4, constantValue := 0 }, { name := "MIN_VALUE", type := .double, accessFlags := 25, slot := 5, constantValue := 0 }, { name := "SIZE", type := .int, accessFlags := 25, slot := 6, constantValue := 0 }, { name := "PRECISION", type := .int, accessFlags := 25, slot := 7, constantValue := 0 }, { name := "MAX_EXPONENT", type := .int, accessFlags := 25, slot := 8, constantValue := 0 }, { name := "MIN_EXPONENT", type := .int, accessFlags := 25, slot := 9, constantValue := 0 }, { name := "BYTES", type := .int, accessFlags := 25, slot := 10, constantValue := 0 }, { name := "TYPE", type := (.object "java/lang/Class"), accessFlags := 25, slot := 11, constantValue := 0 }, { name := "value", type := .double, accessFlags := 18, slot := 0, constantValue := 0 }, { name := "serialVersionUID", type := .long, accessFlags := 26, slot := 12, constantValue := 0 }]
  methods := #[k16m0, k16m1, k16m2, k16m3]
  instanceTypes := #[.double]
  staticTypes := #[.double, .double, .double, .double, .double, .double, .int, .int, .int, .int, .int, (.object "java/lang/Class"), .long]
  resolved := Array.replicate 290 none
  statics := none }

def pool17 : Array CpInfo := pool [(2, .class_ 4), (1, u "java/lang/Object"), (0, u "<init>"), (0, u "()V"), (1, .class_ 10), (1, u "java/util/AbstractCollection"), (66, .class_ 78), (0, u "java/util/Collection")] 81

def k17m0 : Method := { name := "<init>", desc := "()V", sig := { parameters := [], returnType := none }, accessFlags := 4, code := none }
/-- java/util/AbstractCollection -/
def k17 : Class := { plain "java/util/AbstractCollection" (some 0) with
  accessFlags := 1057
  interfaces := #[9]
  cf := some (fileOf pool17 8 #[] #[{ accessFlags := 4, nameIndex := 5, descriptorIndex := 6, attributes := #[] }] 1057 2 #[77] #[])
  fields := #[]
  methods := #[k17m0]
  instanceTypes := #[]
  staticTypes := #[]
  resolved := Array.replicate 160 none
  statics := none }

def pool18 : Array CpInfo := pool [(2, .class_ 4), (1, u "java/util/AbstractCollection"), (0, u "<init>"), (0, u "()V"), (1, .class_ 10), (1, u "java/util/ImmutableCollections"), (2, .class_ 14), (0, u "java/util/ImmutableCollections$AbstractImmutableCollection")] 41

def k18m0 : Method := { name := "<init>", desc := "()V", sig := { parameters := [], returnType := none }, accessFlags := 0, code := none }
/-- java/util/ImmutableCollections$AbstractImmutableCollection -/
def k18 : Class := { plain "java/util/ImmutableCollections$AbstractImmutableCollection" (some 17) with
  accessFlags := 1056
  interfaces := #[]
  cf := some (fileOf pool18 13 #[.nestHost 8] #[{ accessFlags := 0, nameIndex := 5, descriptorIndex := 6, attributes := #[] }] 1056 2 #[] #[])
  fields := #[]
  methods := #[k18m0]
  instanceTypes := #[]
  staticTypes := #[]
  resolved := Array.replicate 56 none
  statics := none }

def pool19 : Array CpInfo := pool [(1, .class_ 2), (0, u "java/util/RandomAccess"), (0, .class_ 4), (0, u "java/lang/Object")] 2

/-- java/util/RandomAccess -/
def k19 : Class := { plain "java/util/RandomAccess" (some 0) with
  accessFlags := 1537
  interfaces := #[]
  cf := some (fileOf pool19 1 #[] #[] 1537 3 #[] #[])
  fields := #[]
  methods := #[]
  instanceTypes := #[]
  staticTypes := #[]
  resolved := Array.replicate 7 none
  statics := none }

def pool20 : Array CpInfo := pool [(2, .class_ 4), (1, u "java/util/ImmutableCollections$AbstractImmutableCollection"), (0, u "<init>"), (0, u "()V"), (1, .class_ 10), (1, u "java/util/ImmutableCollections"), (3, .class_ 16), (1, u "java/util/ImmutableCollections$AbstractImmutableList"), (60, .class_ 78), (0, u "java/util/List"), (45, .class_ 125), (0, u "java/util/RandomAccess")] 70

def k20m0 : Method := { name := "<init>", desc := "()V", sig := { parameters := [], returnType := none }, accessFlags := 0, code := none }
/-- java/util/ImmutableCollections$AbstractImmutableList -/
def k20 : Class := { plain "java/util/ImmutableCollections$AbstractImmutableList" (some 18) with
  accessFlags := 1056
  interfaces := #[11, 19]
  cf := some (fileOf pool20 14 #[.nestHost 8] #[{ accessFlags := 0, nameIndex := 5, descriptorIndex := 6, attributes := #[] }] 1056 2 #[77, 124] #[])
  fields := #[]
  methods := #[k20m0]
  instanceTypes := #[]
  staticTypes := #[]
  resolved := Array.replicate 196 none
  statics := none }

def pool21 : Array CpInfo := pool [(2, .class_ 4), (1, u "java/util/ImmutableCollections$AbstractImmutableList"), (3, .class_ 10), (1, u "java/util/ImmutableCollections$ListN"), (0, u "elements"), (0, u "[Ljava/lang/Object;"), (2, u "allowNulls"), (0, u "Z"), (42, .class_ 60), (0, u "java/io/Serializable"), (53, .class_ 115), (0, u "java/util/ImmutableCollections")] 3

/-- java/util/ImmutableCollections$ListN -/
def k21 : Class := { plain "java/util/ImmutableCollections$ListN" (some 20) with
  accessFlags := 48
  interfaces := #[5]
  cf := some (fileOf pool21 8 #[.nestHost 114] #[] 48 2 #[59] #[{ accessFlags := 18, nameIndex := 11, descriptorIndex := 12, attributes := #[] }, { accessFlags := 18, nameIndex := 15, descriptorIndex := 16, attributes := #[] }])
  fields := #[{ name := "elements", type := (.array (.object "java/lang/Object")), accessFlags := 18, slot := 0, constantValue := 0 }, { name := "allowNulls", type := .boolean, accessFlags := 18, slot := 1, constantValue := 0 }]
  methods := #[]
  instanceTypes := #[(.array (.object "java/lang/Object")), .boolean]
  staticTypes := #[]
  resolved := Array.replicate 119 none
  statics := none }

def pool22 : Array CpInfo := pool [(2, .class_ 4), (1, u "java/lang/Object"), (0, u "<init>"), (0, u "()V"), (1, .class_ 10), (1, u "java/util/AbstractMap"), (42, .class_ 54), (0, u "java/util/Map"), (9, u "keySet"), (0, u "Ljava/util/Set;"), (0, .class_ 67), (0, u "java/util/AbstractMap$1"), (5, u "values"), (0, u "Ljava/util/Collection;"), (0, .class_ 76), (0, u "java/util/AbstractMap$2"), (104, .class_ 182), (0, u "java/util/AbstractMap$ViewCollection"), (0, .class_ 184), (0, u "java/util/AbstractMap$SimpleImmutableEntry"), (0, .class_ 186), (0, u "java/util/AbstractMap$SimpleEntry"), (0, .class_ 188), (0, u "java/util/AbstractMap$2$1"), (0, .class_ 190), (0, u "java/util/AbstractMap$1$1")] 5

def k22m0 : Method := { name := "<init>", desc := "()V", sig := { parameters := [], returnType := none }, accessFlags := 4, code := none }
/-- java/util/AbstractMap -/
def k22 : Class := { plain "java/util/AbstractMap" (some 0) with
  accessFlags := 1057
  interfaces := #[13]
  cf := some (fileOf pool22 8 #[.nestMembers #[181, 183, 185, 75, 187, 66, 189]] #[{ accessFlags := 4, nameIndex := 5, descriptorIndex := 6, attributes := #[] }] 1057 2 #[53] #[{ accessFlags := 128, nameIndex := 64, descriptorIndex := 65, attributes := #[] }, { accessFlags := 128, nameIndex := 73, descriptorIndex := 74, attributes := #[] }])
  fields := #[{ name := "keySet", type := (.object "java/util/Set"), accessFlags := 128, slot := 0, constantValue := 0 }, { name := "values", type := (.object "java/util/Collection"), accessFlags := 128, slot := 1, constantValue := 0 }]
  methods := #[k22m0]
  instanceTypes := #[(.object "java/util/Set"), (.object "java/util/Collection")]
  staticTypes := #[]
  resolved := Array.replicate 196 none
  statics := none }

def pool23 : Array CpInfo := pool [(2, .class_ 4), (1, u "java/util/AbstractMap"), (0, u "<init>"), (0, u "()V"), (1, .class_ 10), (1, u "java/util/ImmutableCollections"), (3, .class_ 16), (1, u "java/util/ImmutableCollections$AbstractImmutableMap"), (2, .class_ 20), (0, u "java/io/Serializable")] 66

def k23m0 : Method := { name := "<init>", desc := "()V", sig := { parameters := [], returnType := none }, accessFlags := 0, code := none }
/-- java/util/ImmutableCollections$AbstractImmutableMap -/
def k23 : Class := { plain "java/util/ImmutableCollections$AbstractImmutableMap" (some 22) with
  accessFlags := 1056
  interfaces := #[5]
  cf := some (fileOf pool23 14 #[.nestHost 8] #[{ accessFlags := 0, nameIndex := 5, descriptorIndex := 6, attributes := #[] }] 1056 2 #[19] #[])
  fields := #[]
  methods := #[k23m0]
  instanceTypes := #[(.object "java/util/Set"), (.object "java/util/Collection")]
  staticTypes := #[]
  resolved := Array.replicate 87 none
  statics := none }

def pool24 : Array CpInfo := pool [(1, .class_ 2), (0, u "java/util/ImmutableCollections"), (1, .class_ 6), (1, u "java/util/ImmutableCollections$AbstractImmutableMap"), (10, .class_ 19), (1, u "java/util/ImmutableCollections$MapN"), (0, u "size"), (0, u "I"), (4, u "table"), (0, u "[Ljava/lang/Object;")] 121

/-- java/util/ImmutableCollections$MapN -/
def k24 : Class := { plain "java/util/ImmutableCollections$MapN" (some 23) with
  accessFlags := 48
  interfaces := #[]
  cf := some (fileOf pool24 17 #[.nestHost 1] #[] 48 4 #[] #[{ accessFlags := 16, nameIndex := 26, descriptorIndex := 27, attributes := #[] }, { accessFlags := 16, nameIndex := 20, descriptorIndex := 21, attributes := #[] }])
  fields := #[{ name := "table", type := (.array (.object "java/lang/Object")), accessFlags := 16, slot := 2, constantValue := 0 }, { name := "size", type := .int, accessFlags := 16, slot := 3, constantValue := 0 }]
  methods := #[]
  instanceTypes := #[(.object "java/util/Set"), (.object "java/util/Collection"), (.array (.object "java/lang/Object")), .int]
  staticTypes := #[]
  resolved := Array.replicate 149 none
  statics := none }

def pool25 : Array CpInfo := pool [(1, u "java/lang/Class"), (0, .class_ 1), (0, u "java/lang/Object"), (0, .class_ 3)] 3

/-- java/lang/Class -/
def k25 : Class := { plain "java/lang/Class" (some 0) with
  accessFlags := 49
  interfaces := #[]
  cf := some (fileOf pool25 2 #[] #[] 49 4 #[] #[])
  fields := #[]
  methods := #[]
  instanceTypes := #[]
  staticTypes := #[]
  resolved := Array.replicate 8 none
  statics := none }

def pool26 : Array CpInfo := pool [(1, u "java/lang/Cloneable"), (0, .class_ 1), (0, u "java/lang/Object"), (0, .class_ 3)] 3

/-- java/lang/Cloneable -/
def k26 : Class := { plain "java/lang/Cloneable" (some 0) with
  accessFlags := 1537
  interfaces := #[]
  cf := some (fileOf pool26 2 #[] #[] 1537 4 #[] #[])
  fields := #[]
  methods := #[]
  instanceTypes := #[]
  staticTypes := #[]
  resolved := Array.replicate 8 none
  statics := none }

/-- the primitive byte -/
def k27 : Class := { plain "byte" none with kind := .primitive 'B', accessFlags := 0x411 }
/-- [B -/
def k28 : Class := { plain "[B" (some 0) with kind := .array 27 .byte, interfaces := #[26, 5], accessFlags := 1041 }

/-- the primitive int -/
def k29 : Class := { plain "int" none with kind := .primitive 'I', accessFlags := 0x411 }
/-- [I -/
def k30 : Class := { plain "[I" (some 0) with kind := .array 29 .int, interfaces := #[26, 5], accessFlags := 1041 }

/-- [Ljava/lang/Object; -/
def k31 : Class := { plain "[Ljava/lang/Object;" (some 0) with kind := .array 0 (.object "java/lang/Object"), interfaces := #[26, 5], accessFlags := 1041 }

def heap : Heap := #[{ cls := 7, slots := #[.null, .null, .null, .null, .null, .null, .null, .ref 4, .null], vm := .statics 7 },
  { cls := 12, slots := #[.long 0, .int 0, .null, .null, .ref 5, .null, .null, .ref 6, .int 0, .int 0], vm := .statics 12 },
  { cls := 25, slots := #[], vm := .mirror 7 },
  { cls := 31, slots := #[], vm := .none },
  { cls := 7, slots := #[.null, .int 7, .int 0], vm := .none },
  { cls := 21, slots := #[.ref 3, .int 0], vm := .none },
  { cls := 24, slots := #[.null, .null, .ref 3, .int 0], vm := .none }]
def classes : Array Class := #[k0, k1, k2, k3, k4, k5, k6, k7, k8, k9, k10, k11, k12, k13, k14, k15, k16, k17, k18, k19, k20, k21, k22, k23, k24, k25, k26, k27, k28, k29, k30, k31]
def interned : List (Array UInt16 × Addr) := []
def slotsUsed : Nat := 28
def theMethod : MethodId := ⟨1, 1⟩
def args0 : Array Value := #[.int 2, .int 3, .int 4]
def aboutOver (below : List Frame) : State where
  vm := { classes := classes, interned := interned.toArray }
  heap := heap
  slotsUsed := slotsUsed
  threads := #[{ frames := .invoking theMethod args0 :: below }]
def below0 : List Frame := [.native { method := ⟨0, 0⟩, args := #[] }]
def about1 : State := aboutOver below0
def p0 : Program := .bare "" "" ""
def e0 : Env := launch0.env 0 0 0
theorem w_frames : about1.frames = Frame.invoking theMethod args0 :: below0 := rfl
set_option maxRecDepth 65536 in
theorem w_args : argsFit about1.vm theMethod args0 = true := by decide +kernel
set_option maxRecDepth 65536 in
theorem w_heap : heapFits about1 = true := by decide +kernel
set_option maxRecDepth 65536 in
theorem w_runnable : about1.curStatus? = some .runnable := by decide +kernel
set_option maxRecDepth 65536 in
theorem w_alone : about1.alone = true := by decide +kernel
set_option maxRecDepth 65536 in
theorem w_named : about1.methodNamed? x = some theMethod := by decide +kernel
set_option maxRecDepth 65536 in
theorem w_hears : about1.hears theMethod below0 = true := by decide +kernel
set_option maxRecDepth 65536 in
theorem w_ripe : about1.ripe theMethod args0 below0 = true := by decide +kernel
theorem w_running : about1.status = .running := rfl
set_option maxRecDepth 65536 in
theorem w_room : about1.hasRoom e0.platform room_1 = true :=
  launch0.hasRoom_least _ room_1 (by decide +kernel) (by decide +kernel) (by decide +kernel) (by decide +kernel) (by decide +kernel) (by decide +kernel)
theorem allAtoms_all (ts : List Jvm.Cond) (a : Array Jvm.Value) (st : Jvm.State) : (allAtoms ts).before a st = ts.all (fun c => c.before a st) := by
  induction ts with
  | nil => rfl
  | cons c t ih =>
    show (Jvm.Cond.and c (allAtoms t)).before a st = _
    rw [Jvm.Cond.before_and, ih, List.all_cons]
def words1 : List Jvm.Cond := Jvm.Cond.code x code maxLocals ret :: tables_1
/-- a 'code' word, met by the world's own term for the bytes: nothing is compared byte by byte -/
theorem code_word {y : MethodName} {bytes : ByteArray} {mx : Nat} {rt : Option FieldType} {a : Array Value} {s : State} {m : MethodId} {meth : Method} {c : Code} (h1 : s.methodNamed? y = some m) (h2 : s.vm.method? m = some meth) (h3 : meth.code = some c) (h4 : c.code = bytes)
    (h5 : (c.maxLocals == mx && c.exceptionTable.isEmpty && decide (c.maxStack ≤ mostOperands) && decide (meth.sig.returnType = rt) && !meth.locks && decide (parseMethodDescriptor y.desc = some meth.sig)) = true) : (Jvm.Cond.code y bytes mx rt).before a s = true := by
  simp only [Bool.and_eq_true, beq_iff_eq, Bool.not_eq_true', decide_eq_true_eq] at h5
  obtain ⟨⟨⟨⟨⟨g1, g2⟩, g3⟩, g4⟩, g5⟩, g6⟩ := h5
  simp [Cond.before, Cond.holds, Cond.value, h1, h2, h3, h4, g1, g2, g3, g4, g5, g6]
def isCode : Jvm.Cond → Bool
  | .code _ _ _ _ => true
  | _ => false
theorem all_split {L : List Jvm.Cond} {P : Jvm.Cond → Bool} (h1 : L.all (fun c => isCode c || P c) = true) (h2 : ∀ c ∈ L.filter isCode, P c = true) : L.all P = true := by
  refine List.all_eq_true.mpr fun c hc => ?_
  have h := List.all_eq_true.mp h1 c hc
  rcases Bool.eq_false_or_eq_true (isCode c) with hi | hi
  · exact h2 c (List.mem_filter.mpr ⟨hc, hi⟩)
  · simpa [hi] using h
set_option maxRecDepth 65536 in
theorem w_c0 : (Jvm.Cond.code x code maxLocals ret).before args0 about1 = true := code_word (m := ⟨1, 1⟩) (meth := k1m1) (c := k1c1) (by decide +kernel) rfl rfl rfl (by decide +kernel)
set_option maxRecDepth 65536 in
theorem w_c1 : (Jvm.Cond.code ({ cls := "com/example/tasdik/tasdik/core/cbor/CborValueFloatingPinLaw", name := "make", desc := "(IZZ)D" } : Jvm.MethodName) method_3_code (5 : Nat) (Option.some Jvm.ClassFile.FieldType.double)).before args0 about1 = true := code_word (m := ⟨1, 2⟩) (meth := k1m2) (c := k1c2) (by decide +kernel) rfl rfl rfl (by decide +kernel)
set_option maxRecDepth 65536 in
theorem w_c2 : (Jvm.Cond.code ({ cls := "com/example/tasdik/tasdik/core/cbor/CborValue", name := "floating", desc := "(D)Lcom/example/tasdik/tasdik/core/cbor/CborValue;" } : Jvm.MethodName) prog_21_method_10_code (2 : Nat) (Option.some (Jvm.ClassFile.FieldType.object "com/example/tasdik/tasdik/core/cbor/CborValue"))).before args0 about1 = true := code_word (m := ⟨2, 1⟩) (meth := k2m1) (c := k2c1) (by decide +kernel) rfl rfl rfl (by decide +kernel)
set_option maxRecDepth 65536 in
theorem w_c3 : (Jvm.Cond.code ({ cls := "java/util/List", name := "of", desc := "()Ljava/util/List;" } : Jvm.MethodName) jdk_40_method_36_code (0 : Nat) (Option.some (Jvm.ClassFile.FieldType.object "java/util/List"))).before args0 about1 = true := code_word (m := ⟨11, 0⟩) (meth := k11m0) (c := k11c0) (by decide +kernel) rfl rfl rfl (by decide +kernel)
set_option maxRecDepth 65536 in
theorem w_c4 : (Jvm.Cond.code ({ cls := "java/util/Map", name := "of", desc := "()Ljava/util/Map;" } : Jvm.MethodName) jdk_72_method_26_code (0 : Nat) (Option.some (Jvm.ClassFile.FieldType.object "java/util/Map"))).before args0 about1 = true := code_word (m := ⟨13, 0⟩) (meth := k13m0) (c := k13c0) (by decide +kernel) rfl rfl rfl (by decide +kernel)
set_option maxRecDepth 65536 in
theorem w_c5 : (Jvm.Cond.code ({ cls := "com/example/tasdik/tasdik/core/cbor/CborValue", name := "<init>", desc := "(Lcom/example/tasdik/tasdik/core/cbor/CborValue$Type;Ljava/math/BigInteger;D[BLjava/lang/String;Ljava/util/List;Ljava/util/Map;)V" } : Jvm.MethodName) prog_21_method_1_code (9 : Nat) (Option.none : Option Jvm.ClassFile.FieldType)).before args0 about1 = true := code_word (m := ⟨2, 0⟩) (meth := k2m0) (c := k2c0) (by decide +kernel) rfl rfl rfl (by decide +kernel)
set_option maxRecDepth 65536 in
theorem w_c6 : (Jvm.Cond.code ({ cls := "java/lang/Object", name := "<init>", desc := "()V" } : Jvm.MethodName) object_method_1_code (1 : Nat) (Option.none : Option Jvm.ClassFile.FieldType)).before args0 about1 = true := code_word (m := ⟨0, 0⟩) (meth := k0m0) (c := k0c0) (by decide +kernel) rfl rfl rfl (by decide +kernel)
set_option maxRecDepth 65536 in
theorem w_c7 : (Jvm.Cond.code ({ cls := "com/example/tasdik/tasdik/core/cbor/CborValueFloatingPinLaw", name := "scaled", desc := "(IZZ)J" } : Jvm.MethodName) method_4_code (5 : Nat) (Option.some Jvm.ClassFile.FieldType.long)).before args0 about1 = true := code_word (m := ⟨1, 3⟩) (meth := k1m3) (c := k1c3) (by decide +kernel) rfl rfl rfl (by decide +kernel)
set_option maxRecDepth 65536 in
theorem w_c8 : (Jvm.Cond.code ({ cls := "com/example/tasdik/tasdik/core/cbor/CborValue", name := "type", desc := "()Lcom/example/tasdik/tasdik/core/cbor/CborValue$Type;" } : Jvm.MethodName) prog_21_method_11_code (1 : Nat) (Option.some (Jvm.ClassFile.FieldType.object "com/example/tasdik/tasdik/core/cbor/CborValue$Type"))).before args0 about1 = true := code_word (m := ⟨2, 2⟩) (meth := k2m2) (c := k2c2) (by decide +kernel) rfl rfl rfl (by decide +kernel)
set_option maxRecDepth 65536 in
theorem w_c9 : (Jvm.Cond.code ({ cls := "com/example/tasdik/tasdik/core/cbor/CborValue", name := "equals", desc := "(Ljava/lang/Object;)Z" } : Jvm.MethodName) prog_21_method_16_code (3 : Nat) (Option.some Jvm.ClassFile.FieldType.boolean)).before args0 about1 = true := code_word (m := ⟨2, 3⟩) (meth := k2m3) (c := k2c3) (by decide +kernel) rfl rfl rfl (by decide +kernel)
set_option maxRecDepth 65536 in
theorem w_c10 : (Jvm.Cond.code ({ cls := "com/example/tasdik/tasdik/core/cbor/CborValue", name := "compare", desc := "(Lcom/example/tasdik/tasdik/core/cbor/CborValue;Lcom/example/tasdik/tasdik/core/cbor/CborValue;)I" } : Jvm.MethodName) prog_21_method_18_code (3 : Nat) (Option.some Jvm.ClassFile.FieldType.int)).before args0 about1 = true := code_word (m := ⟨2, 4⟩) (meth := k2m4) (c := k2c4) (by decide +kernel) rfl rfl rfl (by decide +kernel)
set_option maxRecDepth 65536 in
theorem w_c11 : (Jvm.Cond.code ({ cls := "java/lang/Enum", name := "compareTo", desc := "(Ljava/lang/Enum;)I" } : Jvm.MethodName) jdk_37_method_8_code (4 : Nat) (Option.some Jvm.ClassFile.FieldType.int)).before args0 about1 = true := code_word (m := ⟨6, 1⟩) (meth := k6m1) (c := k6c1) (by decide +kernel) rfl rfl rfl (by decide +kernel)
set_option maxRecDepth 65536 in
theorem w_c12 : (Jvm.Cond.code ({ cls := "java/lang/Enum", name := "ordinal", desc := "()I" } : Jvm.MethodName) jdk_37_method_2_code (1 : Nat) (Option.some Jvm.ClassFile.FieldType.int)).before args0 about1 = true := code_word (m := ⟨6, 0⟩) (meth := k6m0) (c := k6c0) (by decide +kernel) rfl rfl rfl (by decide +kernel)
set_option maxRecDepth 65536 in
theorem w_c13 : (Jvm.Cond.code ({ cls := "java/lang/Double", name := "compare", desc := "(DD)I" } : Jvm.MethodName) jdk_117_method_27_code (8 : Nat) (Option.some Jvm.ClassFile.FieldType.int)).before args0 about1 = true := code_word (m := ⟨16, 3⟩) (meth := k16m3) (c := k16c3) (by decide +kernel) rfl rfl rfl (by decide +kernel)
set_option maxRecDepth 65536 in
theorem w_c14 : (Jvm.Cond.code ({ cls := "java/lang/Double", name := "doubleToLongBits", desc := "(D)J" } : Jvm.MethodName) jdk_117_method_23_code (2 : Nat) (Option.some Jvm.ClassFile.FieldType.long)).before args0 about1 = true := code_word (m := ⟨16, 1⟩) (meth := k16m1) (c := k16c1) (by decide +kernel) rfl rfl rfl (by decide +kernel)
set_option maxRecDepth 65536 in
theorem w_c15 : (Jvm.Cond.code ({ cls := "java/lang/Double", name := "isNaN", desc := "(D)Z" } : Jvm.MethodName) jdk_117_method_6_code (2 : Nat) (Option.some Jvm.ClassFile.FieldType.boolean)).before args0 about1 = true := code_word (m := ⟨16, 0⟩) (meth := k16m0) (c := k16c0) (by decide +kernel) rfl rfl rfl (by decide +kernel)
def codes1 : List Jvm.Cond := [Jvm.Cond.code x code maxLocals ret, Jvm.Cond.code ({ cls := "com/example/tasdik/tasdik/core/cbor/CborValueFloatingPinLaw", name := "make", desc := "(IZZ)D" } : Jvm.MethodName) method_3_code (5 : Nat) (Option.some Jvm.ClassFile.FieldType.double), Jvm.Cond.code ({ cls := "com/example/tasdik/tasdik/core/cbor/CborValue", name := "floating", desc := "(D)Lcom/example/tasdik/tasdik/core/cbor/CborValue;" } : Jvm.MethodName) prog_21_method_10_code (2 : Nat) (Option.some (Jvm.ClassFile.FieldType.object "com/example/tasdik/tasdik/core/cbor/CborValue")), Jvm.Cond.code ({ cls := "java/util/List", name := "of", desc := "()Ljava/util/List;" } : Jvm.MethodName) jdk_40_method_36_code (0 : Nat) (Option.some (Jvm.ClassFile.FieldType.object "java/util/List")), Jvm.Cond.code ({ cls := "java/util/Map", name := "of", desc := "()Ljava/util/Map;" } : Jvm.MethodName) jdk_72_method_26_code (0 : Nat) (Option.some (Jvm.ClassFile.FieldType.object "java/util/Map")), Jvm.Cond.code ({ cls := "com/example/tasdik/tasdik/core/cbor/CborValue", name := "<init>", desc := "(Lcom/example/tasdik/tasdik/core/cbor/CborValue$Type;Ljava/math/BigInteger;D[BLjava/lang/String;Ljava/util/List;Ljava/util/Map;)V" } : Jvm.MethodName) prog_21_method_1_code (9 : Nat) (Option.none : Option Jvm.ClassFile.FieldType), Jvm.Cond.code ({ cls := "java/lang/Object", name := "<init>", desc := "()V" } : Jvm.MethodName) object_method_1_code (1 : Nat) (Option.none : Option Jvm.ClassFile.FieldType), Jvm.Cond.code ({ cls := "com/example/tasdik/tasdik/core/cbor/CborValueFloatingPinLaw", name := "scaled", desc := "(IZZ)J" } : Jvm.MethodName) method_4_code (5 : Nat) (Option.some Jvm.ClassFile.FieldType.long), Jvm.Cond.code ({ cls := "com/example/tasdik/tasdik/core/cbor/CborValue", name := "type", desc := "()Lcom/example/tasdik/tasdik/core/cbor/CborValue$Type;" } : Jvm.MethodName) prog_21_method_11_code (1 : Nat) (Option.some (Jvm.ClassFile.FieldType.object "com/example/tasdik/tasdik/core/cbor/CborValue$Type")), Jvm.Cond.code ({ cls := "com/example/tasdik/tasdik/core/cbor/CborValue", name := "equals", desc := "(Ljava/lang/Object;)Z" } : Jvm.MethodName) prog_21_method_16_code (3 : Nat) (Option.some Jvm.ClassFile.FieldType.boolean), Jvm.Cond.code ({ cls := "com/example/tasdik/tasdik/core/cbor/CborValue", name := "compare", desc := "(Lcom/example/tasdik/tasdik/core/cbor/CborValue;Lcom/example/tasdik/tasdik/core/cbor/CborValue;)I" } : Jvm.MethodName) prog_21_method_18_code (3 : Nat) (Option.some Jvm.ClassFile.FieldType.int), Jvm.Cond.code ({ cls := "java/lang/Enum", name := "compareTo", desc := "(Ljava/lang/Enum;)I" } : Jvm.MethodName) jdk_37_method_8_code (4 : Nat) (Option.some Jvm.ClassFile.FieldType.int), Jvm.Cond.code ({ cls := "java/lang/Enum", name := "ordinal", desc := "()I" } : Jvm.MethodName) jdk_37_method_2_code (1 : Nat) (Option.some Jvm.ClassFile.FieldType.int), Jvm.Cond.code ({ cls := "java/lang/Double", name := "compare", desc := "(DD)I" } : Jvm.MethodName) jdk_117_method_27_code (8 : Nat) (Option.some Jvm.ClassFile.FieldType.int), Jvm.Cond.code ({ cls := "java/lang/Double", name := "doubleToLongBits", desc := "(D)J" } : Jvm.MethodName) jdk_117_method_23_code (2 : Nat) (Option.some Jvm.ClassFile.FieldType.long), Jvm.Cond.code ({ cls := "java/lang/Double", name := "isNaN", desc := "(D)Z" } : Jvm.MethodName) jdk_117_method_6_code (2 : Nat) (Option.some Jvm.ClassFile.FieldType.boolean)]
set_option maxRecDepth 65536 in
theorem codes_eq : words1.filter isCode = codes1 := rfl
theorem w_codes : ∀ c ∈ words1.filter isCode, c.before args0 about1 = true := by
  rw [codes_eq]
  intro c hc
  simp only [codes1, List.mem_cons, List.not_mem_nil, or_false] at hc
  rcases hc with rfl | rfl | rfl | rfl | rfl | rfl | rfl | rfl | rfl | rfl | rfl | rfl | rfl | rfl | rfl | rfl
  · exact w_c0
  · exact w_c1
  · exact w_c2
  · exact w_c3
  · exact w_c4
  · exact w_c5
  · exact w_c6
  · exact w_c7
  · exact w_c8
  · exact w_c9
  · exact w_c10
  · exact w_c11
  · exact w_c12
  · exact w_c13
  · exact w_c14
  · exact w_c15
set_option maxRecDepth 65536 in
theorem w_t1 : (words1.take 24).all (fun c => isCode c || c.before args0 about1) = true := by decide +kernel
set_option maxRecDepth 65536 in
theorem w_t2 : ((words1.drop 24).take 24).all (fun c => isCode c || c.before args0 about1) = true := by decide +kernel
set_option maxRecDepth 65536 in
theorem w_t3 : (((words1.drop 24).drop 24).take 24).all (fun c => isCode c || c.before args0 about1) = true := by decide +kernel
set_option maxRecDepth 65536 in
theorem w_t4 : ((((words1.drop 24).drop 24).drop 24).take 24).all (fun c => isCode c || c.before args0 about1) = true := by decide +kernel
set_option maxRecDepth 65536 in
theorem w_t5 : ((((words1.drop 24).drop 24).drop 24).drop 24).all (fun c => isCode c || c.before args0 about1) = true := by decide +kernel
theorem w_tables : (allAtoms (Jvm.Cond.code x code maxLocals ret :: tables_1)).before args0 about1 = true := by
  rw [allAtoms_all]
  show words1.all (fun c => c.before args0 about1) = true
  refine all_split ?_ w_codes
  rw [← List.take_append_drop 24 words1, List.all_append, w_t1, ← List.take_append_drop 24 (words1.drop 24), List.all_append, w_t2, ← List.take_append_drop 24 ((words1.drop 24).drop 24), List.all_append, w_t3, ← List.take_append_drop 24 (((words1.drop 24).drop 24).drop 24), List.all_append, w_t4, w_t5]
  rfl
set_option maxRecDepth 65536 in
theorem w_rest : rest_1_c.before args0 about1 = true := by decide +kernel
set_option maxRecDepth 65536 in
theorem w_case : (Jvm.Cond.and given_1 narrow_1).before args0 about1 = true := by decide +kernel
theorem w_applies : (headSpec (Jvm.Cond.code x code maxLocals ret :: tables_1) room_1).applies x e0.platform about1 = true :=
  (Spec.applies_iff w_frames).mpr ⟨w_running, w_runnable, w_alone, w_named, w_hears, w_ripe, w_room, w_tables⟩
theorem atStart : AtStart classFile x code maxLocals ret World_1 tables_1 room_1 Calls_1 rest_1 Pre_1 launch0 p0 e0 about1 theMethod args0 below0 :=
  ⟨lists_1, trivial, launch0.admits_env _ _ _, launch0.least_env, fairChoices_fair.cas, fairChoices_fair.clock, w_frames, w_args, w_heap, w_applies, ⟨⟨7, k7, 2, by decide +kernel, rfl, rfl, _, rfl, rfl⟩, trivial⟩, w_rest, w_case⟩
end start1
theorem witness_1 : WitnessClaimed_1 := ⟨start1.p0, start1.e0, start1.about1, start1.theMethod, start1.args0, start1.below0, start1.atStart⟩
end Jvm.Pilot.@@N@@
