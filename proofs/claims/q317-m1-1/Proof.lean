import JvmDerived
import JvmDerived.Pilot.@@N@@Statement
import JvmDerived.Pilot.@@N@@Code
set_option linter.unusedVariables false
set_option linter.unusedSimpArgs false
namespace Jvm.Pilot.@@N@@
open Jvm Jvm.ClassFile Sem Op Lib Jvm.Free Jvm.Stand Jvm.LawKit Jvm.RoadKit Bundle Jvm.Pilot.@@N@@.Jvm.D
abbrev own_H (a0 : Array Value) (Z : State) : Prop := ∀ d ∈ tables_1, d.before a0 Z = true
theorem own_w {a0 : Array Value} {Z : State} (hw : ∀ d ∈ tables_1, d.before a0 Z = true) (i : Nat) {d : Jvm.Cond} (h : tables_1[i]? = some d) : d.before a0 Z = true := hw _ (List.mem_of_getElem? h)
section Own
variable {p : Program} {l : Launch} {e : Env} {R : Room} {s : State} {m : MethodId} {args : Array Value} {below : List Frame} {meth : Method} {c : Code} {T : State} {locs : List Loc} {cells slots : Nat} {Z : State} {a0 : Array Value} {h : Heap}
def own_Go (p : Program) (e : Env) (below : List Frame) (P : Outcome → State → Prop) (U : State) : Prop := ∃ s₂ o, Steps p.tables e below U s₂ ∧ s₂.status = .running ∧ Ended s₂ below o ∧ P o s₂
theorem own_st {P : Outcome → State → Prop} {U V : State} (k : ∀ t, Steps p.tables e below U t → Steps p.tables e below V t) (h : own_Go p e below P U) : own_Go p e below P V := by
  obtain ⟨a, b, c, d⟩ := h; exact ⟨a, b, k _ c, d⟩
def own_P (s : State) (Q : Option Value → Heap → List Loc → Prop) (rc rs : Nat) (o : Outcome) (U : State) : Prop := ∃ v L, o = .returned v ∧ Q v U.heap L ∧ FrameEnd s o U L rc rs
theorem own_ret (X : Stand p l e R s m args below meth c T locs cells slots) {Q : Option Value → Heap → List Loc → Prop} {rc rs : Nat} {g : JFrame} {v : Option Value} (hlk : meth.locks = false) (hv : meth.sig.returnType = none → v = none) (hq : Q v T.heap locs) (hc : cells ≤ rc) (hl : slots ≤ rs)
    (k : ∀ fs, (∀ (f : JFrame) (acts : List Action), f.method = m → f.locked = none → f.entered = [] → (doReturn e (T.setTop f) acts v).1 = T.setFrames fs) → Steps p.tables e below (T.setTop g) (T.setFrames fs)) : own_Go p e below (own_P s Q rc rs) (T.setTop g) := by
  obtain ⟨fs, hr, hrun, hended, hW, hsame⟩ := X.leave (v := v) hv hlk
  exact ⟨_, _, k fs hr, hrun, hended, _, _, rfl, hq, ⟨_, rfl⟩, hW, hsame.mono hc hl⟩
theorem own_retV (X : Stand p l e R s m args below meth c T locs cells slots) (hx : p.tables.exec = Jvm.exec) {Q : Option Value → Heap → List Loc → Prop} {rc rs pc : Nat} {Ls : Array Slot} (hlk : meth.locks = false) (hret : meth.sig.returnType = none) (hd : decode c.code pc = .ok (.return_, 1)) (hc : cells ≤ rc) (hl : slots ≤ rs) (hq : Q none T.heap locs) : own_Go p e below (own_P s Q rc rs) (T.setTop (mkF m pc Ls [])) :=
  own_ret X hlk (fun _ => rfl) hq hc hl fun _ hr => X.returnOut hx hret hd hr
theorem own_retX (X : Stand p l e R s m args below meth c T locs cells slots) (hx : p.tables.exec = Jvm.exec) {Q : Option Value → Heap → List Loc → Prop} {rc rs pc : Nat} {Ls : Array Slot} {w : Value} {t : FieldType} {i : Instr} {rest : List Value} (hlk : meth.locks = false) (hret : meth.sig.returnType = some t) (hn : narrow t w = w)
    (hi : (i = .ireturn ∧ (t = .int ∨ t = .boolean ∨ t = .byte ∨ t = .char ∨ t = .short) ∧ ∃ z, w = .int z) ∨ (i = .lreturn ∧ t = .long ∧ ∃ z, w = .long z) ∨ (i = .dreturn ∧ t = .double ∧ ∃ z, w = .double z) ∨ (i = .freturn ∧ t = .float ∧ ∃ z, w = .float z) ∨ (i = .areturn ∧ t.isReference = true ∧ w.isRef = true))
    (hd : decode c.code pc = .ok (i, 1)) (hc : cells ≤ rc) (hl : slots ≤ rs) (hq : Q (some w) T.heap locs) : own_Go p e below (own_P s Q rc rs) (T.setTop (mkF m pc Ls (w :: rest))) :=
  own_ret X hlk (fun q => by rw [hret] at q; cases q) hq hc hl fun _ hr => retOut X hx hret hn hi hd hr
theorem own_body {y : MethodName} {bytes : ByteArray} {maxL : Nat} {ret : Option FieldType} {rm : Room} {ws : List Cond} {as' : Array Value} {Q : Option Value → Heap → List Loc → Prop} (hn : plainFor y = true)
    (b : ∀ (p : Program) (e : Env) (s : State) (m : MethodId) (below : List Frame) (meth : Method) (c : Code) (s₁ : State), p.tables.exec = Jvm.exec → c.code = bytes → c.maxLocals = maxL → s.vm.findClass y.cls = some m.cls → meth.name = y.name → meth.sig.returnType = ret → meth.locks = false → Z.Warmed39 s.vm → s₁.heap = h → Stand p l e rm s m as' below meth c s₁ [] 0 0 →
      own_Go p e below (own_P s Q rm.cells rm.slots) (s₁.setTop (entryFrame m as' maxL))) :
    MetFree l y (head1 (Cond.code y bytes maxL ret :: ws) rm) (fun a U => a = as' ∧ Z.Warmed39 U.vm ∧ U.heap = h) (fun _ _ _ _ _ => True) (fun _ U o U' => ∃ v L, o = .returned v ∧ Q v U'.heap L ∧ FrameEnd U o U' L rm.cells rm.slots) := by
  refine MetFree.of_bodySF hn hisR ?_
  intro p e s m args below meth c s₁ Bd hml0 hP hK
  obtain ⟨rfl, hZ, hh⟩ := hP
  exact b p e s m below meth c s₁ Bd.exec Bd.bytes hml0 (findClass_of_methodNamed Bd.named) (name_of_methodNamed Bd.named Bd.method).1 Bd.returns Bd.notSynchronized hZ (by rw [← hh, Bd.state]; rfl) (Stand.of_body Bd)
abbrev own_Met (l : Launch) (y : MethodName) (bytes : ByteArray) (maxL : Nat) (ret : Option FieldType) (ws : List Cond) (rm : Room) (Z : State) (h : Heap) (as' : Array Value) (Q : Option Value → Heap → List Loc → Prop) : Prop :=
  MetFree l y (head1 (Cond.code y bytes maxL ret :: ws) rm) (fun a U => a = as' ∧ Z.Warmed39 U.vm ∧ U.heap = h) (fun _ _ _ _ _ => True) (fun _ U o U' => ∃ v L, o = .returned v ∧ Q v U'.heap L ∧ FrameEnd U o U' L rm.cells rm.slots)
abbrev own_Came (p : Program) (l : Launch) (e : Env) (R : Room) (s : State) (m : MethodId) (args : Array Value) (below : List Frame) (meth : Method) (c : Code) (T : State) (locs : List Loc) (cells slots : Nat) (g : JFrame) (len : Nat) (rest : List Value) (Q : Option Value → Heap → List Loc → Prop) : Prop :=
  ∃ (T' : State) (v : Option Value) (L : List Loc), Stand p l e R s m args below meth c T' (locs ++ L) cells slots ∧ Q v T'.heap L ∧ ∀ t, Steps p.tables e below (T'.setTop { g with pc := g.pc + len, stack := v.toList ++ rest }) t → Steps p.tables e below (T.setTop g) t
theorem own_callS (X : Stand p l e R s m args below meth c T locs cells slots) (hx : p.tables.exec = Jvm.exec) (hZ : Z.Warmed39 s.vm) {own : String} {index : Nat} {y : MethodName} {bytes : ByteArray} {maxL : Nat} {ret : Option FieldType} {rm : Room} {as' : Array Value} {Q : Option Value → Heap → List Loc → Prop}
    (hown : s.vm.findClass own = some m.cls) (w1 : (Cond.methodLink own index y).before a0 Z = true) (w2 : (Cond.static y).before a0 Z = true) (w3 : (Cond.initialized y.cls).before a0 Z = true) (w4 : (Cond.code y bytes maxL ret).before a0 Z = true)
    (hy : y.cls ≠ "java/lang/invoke/MethodHandle" ∧ y.cls ≠ "java/lang/invoke/VarHandle") (hM : own_Met l y bytes maxL ret [] rm Z h as' Q) (eT : T.heap = h) {ps : List FieldType} {r : Option FieldType} (hd : parseMethodDescriptor y.desc = some ⟨ps, r⟩) {argsL rest : List Value} (hl : argsL.length = ps.length) (ha : argsL.toArray = as')
    {g : JFrame} (hg : g.method = m) (hsize : g.locals.size = c.maxLocals) (hstack : g.stack = argsL.reverse ++ rest) (hdg : decode c.code g.pc = .ok (.invokestatic index, 3)) {W : Nat} (hW : 2 * g.monitorRoom + (rest.map fun v => v.category).sum = W) (h1 : rm.frames + 1 ≤ R.frames) (h2 : W + (maxL + 11) + rm.locals ≤ R.locals) (h3 : cells + rm.cells ≤ R.cells) (h4 : slots + rm.slots ≤ R.slots) :
    own_Came p l e R s m args below meth c T locs (cells + rm.cells) (slots + rm.slots) g 3 rest Q := by
  obtain ⟨v, _, ⟨T', L', k', n'⟩, -, X', ⟨Lc, hQ, l1, y1, z1⟩, st⟩ := Jvm.LawKit.callS X hx (y := y) hown (mvT hZ w1) (mvT hZ w2) (mvT hZ w3) (mvT hZ w4) hy (backOf (W := W) hM hZ w4 w3 h1 h2) (g := g) hg hsize (argsL := argsL) (rest := rest) (lenOf hd hl) hstack (Nat.le_of_eq hW) hdg (fun _ _ => ⟨ha, eT, h3, h4⟩)
  dsimp only [Pt.U, Pt.locs, Pt.cells, Pt.slots] at X' l1 y1 z1 st hQ
  subst l1 y1 z1
  exact ⟨T', v, Lc, X', hQ, st⟩
theorem own_callN (X : Stand p l e R s m args below meth c T locs cells slots) (hx : p.tables.exec = Jvm.exec) (hZ : Z.Warmed39 s.vm) {own : String} {index : Nat} {y : MethodName} {bytes : ByteArray} {maxL : Nat} {rm : Room} {as' : Array Value} {Q : Option Value → Heap → List Loc → Prop} (hy1 : y.name = "<init>")
    (hown : s.vm.findClass own = some m.cls) (w1 : (Cond.methodLink own index y).before a0 Z = true) (w2 : (Cond.instanceMethod y).before a0 Z = true) (w3 : (Cond.initialized y.cls).before a0 Z = true) (w4 : (Cond.code y bytes maxL none).before a0 Z = true)
    (hy : y.cls ≠ "java/lang/invoke/MethodHandle" ∧ y.cls ≠ "java/lang/invoke/VarHandle") (hM : own_Met l y bytes maxL none [] rm Z h as' Q) (eT : T.heap = h) {ps : List FieldType} {r : Option FieldType} (hd : parseMethodDescriptor y.desc = some ⟨ps, r⟩) {a : Addr} {argsL rest : List Value} (hl : argsL.length = ps.length) (ha : (.ref a :: argsL).toArray = as')
    {g : JFrame} (hg : g.method = m) (hsize : g.locals.size = c.maxLocals) (hstack : g.stack = argsL.reverse ++ .ref a :: rest) (hdg : decode c.code g.pc = .ok (.invokespecial index, 3)) {W : Nat} (hW : 2 * g.monitorRoom + (rest.map fun v => v.category).sum = W) (h1 : rm.frames + 1 ≤ R.frames) (h2 : W + (maxL + 11) + rm.locals ≤ R.locals) (h3 : cells + rm.cells ≤ R.cells) (h4 : slots + rm.slots ≤ R.slots) :
    own_Came p l e R s m args below meth c T locs (cells + rm.cells) (slots + rm.slots) g 3 rest Q := by
  obtain ⟨v, _, ⟨T', L', k', n'⟩, -, X', ⟨Lc, hQ, l1, y1, z1⟩, st⟩ := X.specialBack hx (y := y) hy1 hown (mvT hZ w1) (mvT hZ w2) (mvT hZ w4) hy (backOf (W := W) hM hZ w4 w3 h1 h2) (g := g) hg hsize (Steps.refl _) (a := a) (argsL := argsL) (rest := rest) (lenOf hd hl) hstack (Nat.le_of_eq hW) hdg (fun _ _ => ⟨ha, eT, h3, h4⟩)
  dsimp only [Pt.U, Pt.locs, Pt.cells, Pt.slots] at X' l1 y1 z1 st hQ
  subst l1 y1 z1
  exact ⟨T', v, Lc, X', hQ, fun _ k => st.trans k⟩
theorem own_callV (X : Stand p l e R s m args below meth c T locs cells slots) (hx : p.tables.exec = Jvm.exec) (hZ : Z.Warmed39 s.vm) {own C : String} {index : Nat} {y z : MethodName} {bytes : ByteArray} {maxL : Nat} {ret : Option FieldType} {rm : Room} {as' : Array Value} {Q : Option Value → Heap → List Loc → Prop}
    (hown : s.vm.findClass own = some m.cls) (w1 : (Cond.methodLink own index y).before a0 Z = true) (w2 : (Cond.declares y).before a0 Z = true) (hnf : NotFace s y) (w5 : (Cond.selects C y z).before a0 Z = true) (w6 : (Cond.instanceMethod z).before a0 Z = true) (w3 : (Cond.initialized z.cls).before a0 Z = true) (w4 : (Cond.code z bytes maxL ret).before a0 Z = true)
    (hy : y.cls ≠ "java/lang/invoke/MethodHandle" ∧ y.cls ≠ "java/lang/invoke/VarHandle") (hM : own_Met l z bytes maxL ret [] rm Z h as' Q) (eT : T.heap = h) {a : Addr} (E : Exa Z h a C) {ps : List FieldType} {r : Option FieldType} (hd : parseMethodDescriptor y.desc = some ⟨ps, r⟩) {argsL rest : List Value} (hl : argsL.length = ps.length) (ha : (.ref a :: argsL).toArray = as')
    {g : JFrame} (hg : g.method = m) (hsize : g.locals.size = c.maxLocals) (hstack : g.stack = argsL.reverse ++ .ref a :: rest) (hdg : decode c.code g.pc = .ok (.invokevirtual index, 3)) {W : Nat} (hW : 2 * g.monitorRoom + (rest.map fun v => v.category).sum = W) (h1 : rm.frames + 1 ≤ R.frames) (h2 : W + (maxL + 11) + rm.locals ≤ R.locals) (h3 : cells + rm.cells ≤ R.cells) (h4 : slots + rm.slots ≤ R.slots) :
    own_Came p l e R s m args below meth c T locs (cells + rm.cells) (slots + rm.slots) g 3 rest Q := by
  obtain ⟨cq, kq, qa, qb, qc⟩ := isOf hZ eT E
  obtain ⟨v, _, ⟨T', L', k', n'⟩, -, X', ⟨Lc, hQ, l1, y1, z1⟩, st⟩ := X.virtualBack hx (y := y) (z := z) hown (mvT hZ w1) (mvT hZ w2) hnf (mvT hZ w5) (mvT hZ w6) hy (backOf (W := W) hM hZ w4 w3 h1 h2) qa qc (g := g) hg hsize (Steps.refl _) (argsL := argsL) (rest := rest) (lenOf hd hl) hstack (Nat.le_of_eq hW) hdg (fun _ _ => ⟨ha, eT, h3, h4⟩)
  dsimp only [Pt.U, Pt.locs, Pt.cells, Pt.slots] at X' l1 y1 z1 st hQ
  subst l1 y1 z1
  exact ⟨T', v, Lc, X', hQ, fun _ k => st.trans k⟩
theorem own_callU (X : Stand p l e R s m args below meth c T locs cells slots) (hx : p.tables.exec = Jvm.exec) (hZ : Z.Warmed39 s.vm) {own C owner : String} {index : Nat} {y z : MethodName} {bytes : ByteArray} {maxL : Nat} {ret : Option FieldType} {rm : Room} {as' : Array Value} {Q : Option Value → Heap → List Loc → Prop}
    (hown : s.vm.findClass own = some m.cls) (w1 : (Cond.methodLink own index y).before a0 Z = true) (w7 : (Cond.sameMethod y.cls owner y.name y.desc).before a0 Z = true) (w2 : (Cond.declares ⟨owner, y.name, y.desc⟩).before a0 Z = true) (w5 : (Cond.selects C y z).before a0 Z = true) (w6 : (Cond.instanceMethod z).before a0 Z = true) (w3 : (Cond.initialized z.cls).before a0 Z = true) (w4 : (Cond.code z bytes maxL ret).before a0 Z = true)
    (hy : owner ≠ "java/lang/invoke/MethodHandle" ∧ owner ≠ "java/lang/invoke/VarHandle") (hM : own_Met l z bytes maxL ret [] rm Z h as' Q) (eT : T.heap = h) {a : Addr} (E : Exa Z h a C) {ps : List FieldType} {r : Option FieldType} (hd : parseMethodDescriptor y.desc = some ⟨ps, r⟩) {argsL rest : List Value} (hl : argsL.length = ps.length) (ha : (.ref a :: argsL).toArray = as')
    {g : JFrame} (hg : g.method = m) (hsize : g.locals.size = c.maxLocals) (hstack : g.stack = argsL.reverse ++ .ref a :: rest) (hdg : decode c.code g.pc = .ok (.invokevirtual index, 3)) {W : Nat} (hW : 2 * g.monitorRoom + (rest.map fun v => v.category).sum = W) (h1 : rm.frames + 1 ≤ R.frames) (h2 : W + (maxL + 11) + rm.locals ≤ R.locals) (h3 : cells + rm.cells ≤ R.cells) (h4 : slots + rm.slots ≤ R.slots) :
    own_Came p l e R s m args below meth c T locs (cells + rm.cells) (slots + rm.slots) g 3 rest Q := by
  obtain ⟨cq, kq, qa, qb, qc⟩ := isOf hZ eT E
  obtain ⟨v, _, ⟨T', L', k', n'⟩, -, X', ⟨Lc, hQ, l1, y1, z1⟩, st⟩ := X.virtualBackUp hx (x := y) (y := z) hown (mvT hZ w1) (mvT hZ w7) (mvT hZ w2) hy (mvT hZ w5) (mvT hZ w6) (backOf (W := W) hM hZ w4 w3 h1 h2) qa qc (g := g) hg hsize (Steps.refl _) (argsL := argsL) (rest := rest) (lenOf hd hl) hstack (Nat.le_of_eq hW) hdg (fun _ _ => ⟨ha, eT, h3, h4⟩)
  dsimp only [Pt.U, Pt.locs, Pt.cells, Pt.slots] at X' l1 y1 z1 st hQ
  subst l1 y1 z1
  exact ⟨T', v, Lc, X', hQ, fun _ k => st.trans k⟩
theorem own_callI (X : Stand p l e R s m args below meth c T locs cells slots) (hx : p.tables.exec = Jvm.exec) (hZ : Z.Warmed39 s.vm) {own C : String} {index count : Nat} {y z : MethodName} {bytes : ByteArray} {maxL : Nat} {ret : Option FieldType} {rm : Room} {as' : Array Value} {Q : Option Value → Heap → List Loc → Prop}
    (hown : s.vm.findClass own = some m.cls) (w1 : (Cond.methodLink own index y).before a0 Z = true) (w2 : (Cond.declares y).before a0 Z = true) (w7 : (Cond.interfaceMethod y.cls y.cls y.name y.desc).before args s = true) (w5 : (Cond.selects C y z).before a0 Z = true) (w6 : (Cond.instanceMethod z).before a0 Z = true) (w8 : (Cond.publicMethod z).before a0 Z = true) (w9 : (Cond.unhidden C y.name y.desc).before a0 Z = true) (w10 : (Cond.castable C y.cls).before a0 Z = true) (w3 : (Cond.initialized z.cls).before a0 Z = true) (w4 : (Cond.code z bytes maxL ret).before a0 Z = true)
    (hy : y.cls ≠ "java/lang/invoke/MethodHandle" ∧ y.cls ≠ "java/lang/invoke/VarHandle") (hM : own_Met l z bytes maxL ret [] rm Z h as' Q) (eT : T.heap = h) {a : Addr} (E : Exa Z h a C) {ps : List FieldType} {r : Option FieldType} (hd : parseMethodDescriptor y.desc = some ⟨ps, r⟩) {argsL rest : List Value} (hl : argsL.length = ps.length) (ha : (.ref a :: argsL).toArray = as')
    {g : JFrame} (hg : g.method = m) (hsize : g.locals.size = c.maxLocals) (hstack : g.stack = argsL.reverse ++ .ref a :: rest) (hdg : decode c.code g.pc = .ok (.invokeinterface index count, 5)) {W : Nat} (hW : 2 * g.monitorRoom + (rest.map fun v => v.category).sum = W) (h1 : rm.frames + 1 ≤ R.frames) (h2 : W + (maxL + 11) + rm.locals ≤ R.locals) (h3 : cells + rm.cells ≤ R.cells) (h4 : slots + rm.slots ≤ R.slots) :
    own_Came p l e R s m args below meth c T locs (cells + rm.cells) (slots + rm.slots) g 5 rest Q := by
  obtain ⟨cq, kq, qa, qb, qc⟩ := isOf hZ eT E
  obtain ⟨v, _, ⟨T', L', k', n'⟩, -, X', ⟨Lc, hQ, l1, y1, z1⟩, st⟩ := X.interfaceBack hx (xi := y) (y := z) hown (mvT hZ w1) (mvT hZ w2) w7 (mvT hZ w5) (mvT hZ w6) (mvT hZ w8) (mvT hZ w9) (mvT hZ w10) hy (backOf (W := W) hM hZ w4 w3 h1 h2) qa qb qc (g := g) hg hsize (Steps.refl _) (argsL := argsL) (rest := rest) (lenOf hd hl) hstack (Nat.le_of_eq hW) hdg (fun _ _ => ⟨ha, eT, h3, h4⟩)
  dsimp only [Pt.U, Pt.locs, Pt.cells, Pt.slots] at X' l1 y1 z1 st hQ
  subst l1 y1 z1
  exact ⟨T', v, Lc, X', hQ, fun _ k => st.trans k⟩
theorem own_selP (hZ : Z.Warmed39 s.vm) {y : MethodName} {n : Nat} (w1 : (Cond.instantiable y.cls n).before a0 Z = true) (w2 : (Cond.privateMethod y).before a0 Z = true) (w3 : (Cond.instanceMethod y).before a0 Z = true) (hy : y.cls ≠ "java/lang/invoke/MethodHandle" ∧ y.cls ≠ "java/lang/invoke/VarHandle") : (Cond.selects y.cls y y).before args s = true := by
  obtain ⟨c, k, h1, h2, -, h3, -⟩ := Cond.instantiable_spec (mvT hZ w1 (args := args))
  exact Jvm.Stand.selects_self_of_private h1 h2 (by simp at h3; exact h3.1) (Cond.privateMethod_at (mvP hZ w2 (args := args))) (mvT hZ w3) hy
theorem own_callP (X : Stand p l e R s m args below meth c T locs cells slots) (hx : p.tables.exec = Jvm.exec) (hZ : Z.Warmed39 s.vm) {own : String} {index : Nat} {y : MethodName} {bytes : ByteArray} {maxL : Nat} {ret : Option FieldType} {rm : Room} {as' : Array Value} {Q : Option Value → Heap → List Loc → Prop}
    (hown : s.vm.findClass own = some m.cls) (w1 : (Cond.methodLink own index y).before a0 Z = true) (w6 : (Cond.instanceMethod y).before a0 Z = true) (w5 : (Cond.selects y.cls y y).before args s = true) (w7 : (Cond.privateMethod y).before a0 Z = true) (w3 : (Cond.initialized y.cls).before a0 Z = true) (w4 : (Cond.code y bytes maxL ret).before a0 Z = true)
    (hy : y.cls ≠ "java/lang/invoke/MethodHandle" ∧ y.cls ≠ "java/lang/invoke/VarHandle") (hM : own_Met l y bytes maxL ret [] rm Z h as' Q) (eT : T.heap = h) {a : Addr} {C : String} (E : Exa Z h a C) {ps : List FieldType} {r : Option FieldType} (hd : parseMethodDescriptor y.desc = some ⟨ps, r⟩) {argsL rest : List Value} (hl : argsL.length = ps.length) (ha : (.ref a :: argsL).toArray = as')
    {g : JFrame} (hg : g.method = m) (hsize : g.locals.size = c.maxLocals) (hstack : g.stack = argsL.reverse ++ .ref a :: rest) (hdg : decode c.code g.pc = .ok (.invokevirtual index, 3)) {W : Nat} (hW : 2 * g.monitorRoom + (rest.map fun v => v.category).sum = W) (h1 : rm.frames + 1 ≤ R.frames) (h2 : W + (maxL + 11) + rm.locals ≤ R.locals) (h3 : cells + rm.cells ≤ R.cells) (h4 : slots + rm.slots ≤ R.slots) :
    own_Came p l e R s m args below meth c T locs (cells + rm.cells) (slots + rm.slots) g 3 rest Q := by
  obtain ⟨cq, q, q'⟩ := E.cell
  obtain ⟨v, _, ⟨T', L', k', n'⟩, -, X', ⟨Lc, hQ, l1, y1, z1⟩, st⟩ := X.privateBack hx (y := y) hown (mvT hZ w1) (mvT hZ w6) w5 (Cond.privateMethod_at (mvP hZ w7 (args := #[]))) (mvT hZ w4) hy (backOf (W := W) hM hZ w4 w3 h1 h2) (g := g) hg hsize (Steps.refl _) (a := a) (by rw [eT]; exact q) q' (argsL := argsL) (rest := rest) (lenOf hd hl) hstack (Nat.le_of_eq hW) hdg (fun _ _ => ⟨ha, eT, h3, h4⟩)
  dsimp only [Pt.U, Pt.locs, Pt.cells, Pt.slots] at X' l1 y1 z1 st hQ
  subst l1 y1 z1
  exact ⟨T', v, Lc, X', hQ, fun _ k => st.trans k⟩
theorem own_nl {n0 : Nat} {Z : State} (O : Old Z n0 h) : n0 ≤ h.size := O.1 ▸ O.2.1
theorem own_tt {x : Bool} (h : x = true) : x = true := h
end Own
section Own2
variable {args : Array Value} {Z : State} {a : Addr} {O f d : String} {k : Int32} {t : Term} {v : Value} {ty : FieldType}
theorem own_fldI (ht : t.eval args Z none [] Z = some (.ref a)) (h : (Cond.eq (.field t O f d) (.int k)).value args Z none Z [] = some true) : Fld Z Z.heap a O f d (.int k) := by
  obtain ⟨x, y, ea, eb, -, k2⟩ := cmp_v (Or.inl h)
  obtain rfl : y = .int k := (Option.some.inj (eb.symm.trans (Term.int_eval k)))
  obtain ⟨z, rfl⟩ := k2
  obtain rfl : z = k := by simpa [Cond.value, ea, eb] using h
  rw [fld_at ht] at ea
  exact Fld.start ea
theorem own_len {c : Cell} (ht : t.eval args Z none [] Z = some (.ref a)) (A : Arr Z Z.heap a c ty) (h : (Cond.eq (.length t) (.int k)).value args Z none Z [] = some true) : c.slots.size < 2 ^ 31 ∧ c.slots.size.toInt32 = k := by
  obtain ⟨x, y, ea, eb, -, k2⟩ := cmp_v (Or.inl h)
  obtain rfl : y = .int k := (Option.some.inj (eb.symm.trans (Term.int_eval k)))
  obtain ⟨z, rfl⟩ := k2
  obtain rfl : z = k := by simpa [Cond.value, ea, eb] using h
  have hc := Arr.fin (State.Warmed39.refl Z).alike A
  simp only [Term.eval, ht, Option.bind_eq_bind, Option.bind_some, hc] at ea
  split at ea
  · rename_i hl
    exact ⟨by simpa using hl, by simpa using ea⟩
  · cases ea
theorem own_lenN {n : Nat} {k : Int32} (h : n < 2 ^ 31) (e : n.toInt32 = k) : n = k.toNatClampNeg := by
  subst e
  have := len_toInt h
  simp [Int32.toNatClampNeg, this]
theorem own_elem {c : Cell} {i : Int32} (ht : t.eval args Z none [] Z = some (.ref a)) (A : Arr Z Z.heap a c ty) (h : (Cond.eq (.elem t (.int i)) (.int k)).value args Z none Z [] = some true) : c.slots[i.toNatClampNeg]? = some (.int k) := by
  obtain ⟨x, y, ea, eb, -, k2⟩ := cmp_v (Or.inl h)
  obtain rfl : y = .int k := (Option.some.inj (eb.symm.trans (Term.int_eval k)))
  obtain ⟨z, rfl⟩ := k2
  obtain rfl : z = k := by simpa [Cond.value, ea, eb] using h
  exact (elem_in ea ht (Term.int_eval i) A.1).2
theorem own_bb (x : Int32) : nar .byte x.toInt8.toInt32 = x.toInt8.toInt32 := by simp [nar]
theorem own_narG (h : v.isRef = true) : narrow ty v = v := by cases v <;> first | rfl | (cases ty <;> rfl) | simp [Value.isRef] at h
theorem own_fitG (h : v.isRef = true) (ht : ty.isReference = true := by rfl) : fits ty v = true := by cases v <;> cases ty <;> simp_all [Value.isRef, fits, FieldType.isReference]
theorem own_narC (x : Int32) : narrow .char (.int x.toUInt32.toUInt16.toUInt32.toInt32) = .int x.toUInt32.toUInt16.toUInt32.toInt32 := by
  have : x.toUInt32.toUInt16.toUInt32.toInt32.toUInt32.toUInt16.toUInt32.toInt32 = x.toUInt32.toUInt16.toUInt32.toInt32 := by
    apply Int32.toBitVec_inj.1
    apply BitVec.eq_of_toNat_eq
    simp
  show Value.int _ = _
  exact congrArg Value.int this
theorem own_narB (x : Int32) : narrow .byte (.int x.toInt8.toInt32) = .int x.toInt8.toInt32 := by
  have : x.toInt8.toInt32.toInt8.toInt32 = x.toInt8.toInt32 := by simp
  show Value.int _ = _
  exact congrArg Value.int this
end Own2
section OwnW
variable {p : Program} {l : Launch} {e : Env} {R : Room} {s : State} {m : MethodId} {args : Array Value} {below : List Frame} {meth : Method} {c : Code} {T : State} {locs : List Loc} {cells slots : Nat} {Z : State} {a0 : Array Value} {h : Heap} {vm₀ : Vm} {k₀ : Nat}
def own_PW (s : State) (Q : Option Value → Heap → List Loc → Prop) (rc rs : Nat) (o : Outcome) (U : State) : Prop := ∃ v L, o = .returned v ∧ Q v U.heap L ∧ ReturnedEndW s o U L rc rs
theorem own_retW (X : Stand p l e R (s.setVm vm₀) m args below meth c T locs cells slots) (hS : s.Since vm₀ k₀) (hk : k₀ ≤ h.size) (eT : T.heap = h) {Q : Option Value → Heap → List Loc → Prop} {rc rs : Nat} {g : JFrame} {v : Option Value} (hlk : meth.locks = false) (hv : meth.sig.returnType = none → v = none) (hq : Q v T.heap locs) (hc : cells ≤ rc) (hl : slots ≤ rs)
    (k : ∀ fs, (∀ (f : JFrame) (acts : List Action), f.method = m → f.locked = none → f.entered = [] → (doReturn e (T.setTop f) acts v).1 = T.setFrames fs) → Steps p.tables e below (T.setTop g) (T.setFrames fs)) : own_Go p e below (own_PW s Q rc rs) (T.setTop g) := by
  obtain ⟨fs, hr, hrun, hended, hR⟩ := X.leaveW hS (by rw [eT]; exact hk) (v := v) hv hlk
  exact ⟨_, _, k fs hr, hrun, hended, _, _, rfl, hq, hR.1, hR.2.1, hR.2.2.1, hR.2.2.2.mono hc hl⟩
theorem own_retVW (X : Stand p l e R (s.setVm vm₀) m args below meth c T locs cells slots) (hS : s.Since vm₀ k₀) (hk : k₀ ≤ h.size) (eT : T.heap = h) (hx : p.tables.exec = Jvm.exec) {Q : Option Value → Heap → List Loc → Prop} {rc rs pc : Nat} {Ls : Array Slot} (hlk : meth.locks = false) (hret : meth.sig.returnType = none) (hd : decode c.code pc = .ok (.return_, 1)) (hc : cells ≤ rc) (hl : slots ≤ rs) (hq : Q none T.heap locs) : own_Go p e below (own_PW s Q rc rs) (T.setTop (mkF m pc Ls [])) :=
  own_retW X hS hk eT hlk (fun _ => rfl) hq hc hl fun _ hr => X.returnOut hx hret hd hr
theorem own_retXW (X : Stand p l e R (s.setVm vm₀) m args below meth c T locs cells slots) (hS : s.Since vm₀ k₀) (hk : k₀ ≤ h.size) (eT : T.heap = h) (hx : p.tables.exec = Jvm.exec) {Q : Option Value → Heap → List Loc → Prop} {rc rs pc : Nat} {Ls : Array Slot} {w : Value} {t : FieldType} {i : Instr} {rest : List Value} (hlk : meth.locks = false) (hret : meth.sig.returnType = some t) (hn : narrow t w = w)
    (hi : (i = .ireturn ∧ (t = .int ∨ t = .boolean ∨ t = .byte ∨ t = .char ∨ t = .short) ∧ ∃ z, w = .int z) ∨ (i = .lreturn ∧ t = .long ∧ ∃ z, w = .long z) ∨ (i = .dreturn ∧ t = .double ∧ ∃ z, w = .double z) ∨ (i = .freturn ∧ t = .float ∧ ∃ z, w = .float z) ∨ (i = .areturn ∧ t.isReference = true ∧ w.isRef = true))
    (hd : decode c.code pc = .ok (i, 1)) (hc : cells ≤ rc) (hl : slots ≤ rs) (hq : Q (some w) T.heap locs) : own_Go p e below (own_PW s Q rc rs) (T.setTop (mkF m pc Ls (w :: rest))) :=
  own_retW X hS hk eT hlk (fun q => by rw [hret] at q; cases q) hq hc hl fun _ hr => retOut X hx hret hn hi hd hr
abbrev own_MetW (l : Launch) (y : MethodName) (bytes : ByteArray) (maxL : Nat) (ret : Option FieldType) (ws : List Cond) (rm : Room) (Z : State) (h : Heap) (as' : Array Value) (Q : Option Value → Heap → List Loc → Prop) : Prop :=
  MetFree l y (head1 (Cond.code y bytes maxL ret :: ws) rm) (fun a U => a = as' ∧ Z.Warmed39 U.vm ∧ U.heap = h) (fun _ _ _ _ _ => True) (fun _ U o U' => ∃ v L, o = .returned v ∧ Q v U'.heap L ∧ ReturnedEndW U o U' L rm.cells rm.slots)
theorem own_bodyW {y : MethodName} {bytes : ByteArray} {maxL : Nat} {ret : Option FieldType} {rm : Room} {ws : List Cond} {as' : Array Value} {Q : Option Value → Heap → List Loc → Prop} (hn : plainFor y = true)
    (b : ∀ (p : Program) (e : Env) (s : State) (m : MethodId) (below : List Frame) (meth : Method) (c : Code) (s₁ : State), p.tables.exec = Jvm.exec → c.code = bytes → c.maxLocals = maxL → (s.setVm s.vm).vm.findClass y.cls = some m.cls → meth.name = y.name → meth.sig.returnType = ret → meth.locks = false → Z.Warmed39 (s.setVm s.vm).vm → s₁.heap = h → Stand p l e rm (s.setVm s.vm) m as' below meth c s₁ [] 0 0 → s.Since s.vm 0 →
      own_Go p e below (own_PW s Q rm.cells rm.slots) (s₁.setTop (entryFrame m as' maxL))) :
    own_MetW l y bytes maxL ret ws rm Z h as' Q := by
  refine MetFree.of_bodySF hn hisR ?_
  intro p e s m args below meth c s₁ Bd hml0 hP hK
  obtain ⟨rfl, hZ, hh⟩ := hP
  exact b p e s m below meth c s₁ Bd.exec Bd.bytes hml0 (findClass_of_methodNamed Bd.named) (name_of_methodNamed Bd.named Bd.method).1 Bd.returns Bd.notSynchronized hZ (by rw [← hh, Bd.state]; rfl) (Stand.of_body Bd) ((State.WarmedH.refl s).since 0)
abbrev own_CameW (p : Program) (l : Launch) (e : Env) (R : Room) (s : State) (m : MethodId) (args : Array Value) (below : List Frame) (meth : Method) (c : Code) (T : State) (locs : List Loc) (cells slots : Nat) (Z : State) (own : String) (g : JFrame) (len : Nat) (rest : List Value) (Q : Option Value → Heap → List Loc → Prop) : Prop :=
  ∃ (T' : State) (v : Option Value) (L : List Loc), Stand p l e R (s.setVm T'.vm) m args below meth c T' (locs ++ L) cells slots ∧ s.Since T'.vm T'.heap.size ∧ Z.Warmed39 (s.setVm T'.vm).vm ∧ (s.setVm T'.vm).vm.findClass own = some m.cls ∧ Q v T'.heap L ∧ ∀ t, Steps p.tables e below (T'.setTop { g with pc := g.pc + len, stack := v.toList ++ rest }) t → Steps p.tables e below (T.setTop g) t
theorem own_callSW (X : Stand p l e R (s.setVm vm₀) m args below meth c T locs cells slots) (hx : p.tables.exec = Jvm.exec) (hZ : Z.Warmed39 (s.setVm vm₀).vm) (hS : s.Since vm₀ k₀) (hk : k₀ ≤ h.size) {own : String} {index : Nat} {y : MethodName} {bytes : ByteArray} {maxL : Nat} {ret : Option FieldType} {rm : Room} {as' : Array Value} {Q : Option Value → Heap → List Loc → Prop}
    (hown : (s.setVm vm₀).vm.findClass own = some m.cls) (w1 : (Cond.methodLink own index y).before a0 Z = true) (w2 : (Cond.static y).before a0 Z = true) (w3 : (Cond.initialized y.cls).before a0 Z = true) (w4 : (Cond.code y bytes maxL ret).before a0 Z = true)
    (hy : y.cls ≠ "java/lang/invoke/MethodHandle" ∧ y.cls ≠ "java/lang/invoke/VarHandle") (hM : own_MetW l y bytes maxL ret [] rm Z h as' Q) (eT : T.heap = h) {ps : List FieldType} {r : Option FieldType} (hd : parseMethodDescriptor y.desc = some ⟨ps, r⟩) {argsL rest : List Value} (hl : argsL.length = ps.length) (ha : argsL.toArray = as')
    {g : JFrame} (hg : g.method = m) (hsize : g.locals.size = c.maxLocals) (hstack : g.stack = argsL.reverse ++ rest) (hdg : decode c.code g.pc = .ok (.invokestatic index, 3)) {W : Nat} (hW : 2 * g.monitorRoom + (rest.map fun v => v.category).sum = W) (h1 : rm.frames + 1 ≤ R.frames) (h2 : W + (maxL + 11) + rm.locals ≤ R.locals) (h3 : cells + rm.cells ≤ R.cells) (h4 : slots + rm.slots ≤ R.slots) :
    own_CameW p l e R s m args below meth c T locs (cells + rm.cells) (slots + rm.slots) Z own g 3 rest Q := by
  obtain ⟨v, _, ⟨T', L', k', n'⟩, -, X', hS', hgr, ⟨Lc, hQ, l1, y1, z1⟩, st⟩ := callSS X hx (y := y) hown (mvT hZ w1) (mvT hZ w2) (mvT hZ w3) (mvT hZ w4) hy (backOfS (W := W) hM hZ w4 w3 h1 h2) (g := g) hg hsize (argsL := argsL) (rest := rest) (lenOf hd hl) hstack (Nat.le_of_eq hW) hdg (fun _ _ => ⟨ha, eT, h3, h4⟩)
  dsimp only [Pt.U, Pt.locs, Pt.cells, Pt.slots] at X' hS' hgr l1 y1 z1 st hQ
  subst l1 y1 z1
  obtain ⟨r1, r2, r3, r4⟩ := rebS hS (by rw [eT]; exact hk) X' hS' hgr hZ hown
  exact ⟨T', v, Lc, r1, r2, r3, r4, hQ, fun _ k => st.trans k⟩
theorem own_callNW (X : Stand p l e R (s.setVm vm₀) m args below meth c T locs cells slots) (hx : p.tables.exec = Jvm.exec) (hZ : Z.Warmed39 (s.setVm vm₀).vm) (hS : s.Since vm₀ k₀) (hk : k₀ ≤ h.size) {own : String} {index : Nat} {y : MethodName} {bytes : ByteArray} {maxL : Nat} {rm : Room} {as' : Array Value} {Q : Option Value → Heap → List Loc → Prop} (hy1 : y.name = "<init>")
    (hown : (s.setVm vm₀).vm.findClass own = some m.cls) (w1 : (Cond.methodLink own index y).before a0 Z = true) (w2 : (Cond.instanceMethod y).before a0 Z = true) (w3 : (Cond.initialized y.cls).before a0 Z = true) (w4 : (Cond.code y bytes maxL none).before a0 Z = true)
    (hy : y.cls ≠ "java/lang/invoke/MethodHandle" ∧ y.cls ≠ "java/lang/invoke/VarHandle") (hM : own_MetW l y bytes maxL none [] rm Z h as' Q) (eT : T.heap = h) {ps : List FieldType} {r : Option FieldType} (hd : parseMethodDescriptor y.desc = some ⟨ps, r⟩) {a : Addr} {argsL rest : List Value} (hl : argsL.length = ps.length) (ha : (.ref a :: argsL).toArray = as')
    {g : JFrame} (hg : g.method = m) (hsize : g.locals.size = c.maxLocals) (hstack : g.stack = argsL.reverse ++ .ref a :: rest) (hdg : decode c.code g.pc = .ok (.invokespecial index, 3)) {W : Nat} (hW : 2 * g.monitorRoom + (rest.map fun v => v.category).sum = W) (h1 : rm.frames + 1 ≤ R.frames) (h2 : W + (maxL + 11) + rm.locals ≤ R.locals) (h3 : cells + rm.cells ≤ R.cells) (h4 : slots + rm.slots ≤ R.slots) :
    own_CameW p l e R s m args below meth c T locs (cells + rm.cells) (slots + rm.slots) Z own g 3 rest Q := by
  obtain ⟨v, _, ⟨T', L', k', n'⟩, -, X', hS', hgr, ⟨Lc, hQ, l1, y1, z1⟩, st⟩ := X.specialBackS hx (y := y) hy1 hown (mvT hZ w1) (mvT hZ w2) (mvT hZ w4) hy (backOfS (W := W) hM hZ w4 w3 h1 h2) (g := g) hg hsize (Steps.refl _) (a := a) (argsL := argsL) (rest := rest) (lenOf hd hl) hstack (Nat.le_of_eq hW) hdg (fun _ _ => ⟨ha, eT, h3, h4⟩)
  dsimp only [Pt.U, Pt.locs, Pt.cells, Pt.slots] at X' hS' hgr l1 y1 z1 st hQ
  subst l1 y1 z1
  obtain ⟨r1, r2, r3, r4⟩ := rebS hS (by rw [eT]; exact hk) X' hS' hgr hZ hown
  exact ⟨T', v, Lc, r1, r2, r3, r4, hQ, fun _ k => st.trans k⟩
theorem own_callVW (X : Stand p l e R (s.setVm vm₀) m args below meth c T locs cells slots) (hx : p.tables.exec = Jvm.exec) (hZ : Z.Warmed39 (s.setVm vm₀).vm) (hS : s.Since vm₀ k₀) (hk : k₀ ≤ h.size) {own C : String} {index : Nat} {y z : MethodName} {bytes : ByteArray} {maxL : Nat} {ret : Option FieldType} {rm : Room} {as' : Array Value} {Q : Option Value → Heap → List Loc → Prop}
    (hown : (s.setVm vm₀).vm.findClass own = some m.cls) (w1 : (Cond.methodLink own index y).before a0 Z = true) (w2 : (Cond.declares y).before a0 Z = true) (hnf : NotFace (s.setVm vm₀) y) (w5 : (Cond.selects C y z).before a0 Z = true) (w6 : (Cond.instanceMethod z).before a0 Z = true) (w3 : (Cond.initialized z.cls).before a0 Z = true) (w4 : (Cond.code z bytes maxL ret).before a0 Z = true)
    (hy : y.cls ≠ "java/lang/invoke/MethodHandle" ∧ y.cls ≠ "java/lang/invoke/VarHandle") (hM : own_MetW l z bytes maxL ret [] rm Z h as' Q) (eT : T.heap = h) {a : Addr} (E : Exa Z h a C) {ps : List FieldType} {r : Option FieldType} (hd : parseMethodDescriptor y.desc = some ⟨ps, r⟩) {argsL rest : List Value} (hl : argsL.length = ps.length) (ha : (.ref a :: argsL).toArray = as')
    {g : JFrame} (hg : g.method = m) (hsize : g.locals.size = c.maxLocals) (hstack : g.stack = argsL.reverse ++ .ref a :: rest) (hdg : decode c.code g.pc = .ok (.invokevirtual index, 3)) {W : Nat} (hW : 2 * g.monitorRoom + (rest.map fun v => v.category).sum = W) (h1 : rm.frames + 1 ≤ R.frames) (h2 : W + (maxL + 11) + rm.locals ≤ R.locals) (h3 : cells + rm.cells ≤ R.cells) (h4 : slots + rm.slots ≤ R.slots) :
    own_CameW p l e R s m args below meth c T locs (cells + rm.cells) (slots + rm.slots) Z own g 3 rest Q := by
  obtain ⟨cq, kq, qa, qb, qc⟩ := isOf hZ eT E
  obtain ⟨v, _, ⟨T', L', k', n'⟩, -, X', hS', hgr, ⟨Lc, hQ, l1, y1, z1⟩, st⟩ := X.virtualBackS hx (y := y) (z := z) hown (mvT hZ w1) (mvT hZ w2) hnf (mvT hZ w5) (mvT hZ w6) hy (backOfS (W := W) hM hZ w4 w3 h1 h2) qa qc (g := g) hg hsize (Steps.refl _) (argsL := argsL) (rest := rest) (lenOf hd hl) hstack (Nat.le_of_eq hW) hdg (fun _ _ => ⟨ha, eT, h3, h4⟩)
  dsimp only [Pt.U, Pt.locs, Pt.cells, Pt.slots] at X' hS' hgr l1 y1 z1 st hQ
  subst l1 y1 z1
  obtain ⟨r1, r2, r3, r4⟩ := rebS hS (by rw [eT]; exact hk) X' hS' hgr hZ hown
  exact ⟨T', v, Lc, r1, r2, r3, r4, hQ, fun _ k => st.trans k⟩
theorem own_callUW (X : Stand p l e R (s.setVm vm₀) m args below meth c T locs cells slots) (hx : p.tables.exec = Jvm.exec) (hZ : Z.Warmed39 (s.setVm vm₀).vm) (hS : s.Since vm₀ k₀) (hk : k₀ ≤ h.size) {own C owner : String} {index : Nat} {y z : MethodName} {bytes : ByteArray} {maxL : Nat} {ret : Option FieldType} {rm : Room} {as' : Array Value} {Q : Option Value → Heap → List Loc → Prop}
    (hown : (s.setVm vm₀).vm.findClass own = some m.cls) (w1 : (Cond.methodLink own index y).before a0 Z = true) (w7 : (Cond.sameMethod y.cls owner y.name y.desc).before a0 Z = true) (w2 : (Cond.declares ⟨owner, y.name, y.desc⟩).before a0 Z = true) (w5 : (Cond.selects C y z).before a0 Z = true) (w6 : (Cond.instanceMethod z).before a0 Z = true) (w3 : (Cond.initialized z.cls).before a0 Z = true) (w4 : (Cond.code z bytes maxL ret).before a0 Z = true)
    (hy : owner ≠ "java/lang/invoke/MethodHandle" ∧ owner ≠ "java/lang/invoke/VarHandle") (hM : own_MetW l z bytes maxL ret [] rm Z h as' Q) (eT : T.heap = h) {a : Addr} (E : Exa Z h a C) {ps : List FieldType} {r : Option FieldType} (hd : parseMethodDescriptor y.desc = some ⟨ps, r⟩) {argsL rest : List Value} (hl : argsL.length = ps.length) (ha : (.ref a :: argsL).toArray = as')
    {g : JFrame} (hg : g.method = m) (hsize : g.locals.size = c.maxLocals) (hstack : g.stack = argsL.reverse ++ .ref a :: rest) (hdg : decode c.code g.pc = .ok (.invokevirtual index, 3)) {W : Nat} (hW : 2 * g.monitorRoom + (rest.map fun v => v.category).sum = W) (h1 : rm.frames + 1 ≤ R.frames) (h2 : W + (maxL + 11) + rm.locals ≤ R.locals) (h3 : cells + rm.cells ≤ R.cells) (h4 : slots + rm.slots ≤ R.slots) :
    own_CameW p l e R s m args below meth c T locs (cells + rm.cells) (slots + rm.slots) Z own g 3 rest Q := by
  obtain ⟨cq, kq, qa, qb, qc⟩ := isOf hZ eT E
  obtain ⟨v, _, ⟨T', L', k', n'⟩, -, X', hS', hgr, ⟨Lc, hQ, l1, y1, z1⟩, st⟩ := virtualBackUpS X hx (x := y) (y := z) hown (mvT hZ w1) (mvT hZ w7) (mvT hZ w2) hy (mvT hZ w5) (mvT hZ w6) (backOfS (W := W) hM hZ w4 w3 h1 h2) qa qc (g := g) hg hsize (Steps.refl _) (argsL := argsL) (rest := rest) (lenOf hd hl) hstack (Nat.le_of_eq hW) hdg (fun _ _ => ⟨ha, eT, h3, h4⟩)
  dsimp only [Pt.U, Pt.locs, Pt.cells, Pt.slots] at X' hS' hgr l1 y1 z1 st hQ
  subst l1 y1 z1
  obtain ⟨r1, r2, r3, r4⟩ := rebS hS (by rw [eT]; exact hk) X' hS' hgr hZ hown
  exact ⟨T', v, Lc, r1, r2, r3, r4, hQ, fun _ k => st.trans k⟩
theorem own_callIW (X : Stand p l e R (s.setVm vm₀) m args below meth c T locs cells slots) (hx : p.tables.exec = Jvm.exec) (hZ : Z.Warmed39 (s.setVm vm₀).vm) (hS : s.Since vm₀ k₀) (hk : k₀ ≤ h.size) {own C : String} {index count : Nat} {y z : MethodName} {bytes : ByteArray} {maxL : Nat} {ret : Option FieldType} {rm : Room} {as' : Array Value} {Q : Option Value → Heap → List Loc → Prop}
    (hown : (s.setVm vm₀).vm.findClass own = some m.cls) (w1 : (Cond.methodLink own index y).before a0 Z = true) (w2 : (Cond.declares y).before a0 Z = true) (w7 : (Cond.interfaceMethod y.cls y.cls y.name y.desc).before args (s.setVm vm₀) = true) (w5 : (Cond.selects C y z).before a0 Z = true) (w6 : (Cond.instanceMethod z).before a0 Z = true) (w8 : (Cond.publicMethod z).before a0 Z = true) (w9 : (Cond.unhidden C y.name y.desc).before a0 Z = true) (w10 : (Cond.castable C y.cls).before a0 Z = true) (w3 : (Cond.initialized z.cls).before a0 Z = true) (w4 : (Cond.code z bytes maxL ret).before a0 Z = true)
    (hy : y.cls ≠ "java/lang/invoke/MethodHandle" ∧ y.cls ≠ "java/lang/invoke/VarHandle") (hM : own_MetW l z bytes maxL ret [] rm Z h as' Q) (eT : T.heap = h) {a : Addr} (E : Exa Z h a C) {ps : List FieldType} {r : Option FieldType} (hd : parseMethodDescriptor y.desc = some ⟨ps, r⟩) {argsL rest : List Value} (hl : argsL.length = ps.length) (ha : (.ref a :: argsL).toArray = as')
    {g : JFrame} (hg : g.method = m) (hsize : g.locals.size = c.maxLocals) (hstack : g.stack = argsL.reverse ++ .ref a :: rest) (hdg : decode c.code g.pc = .ok (.invokeinterface index count, 5)) {W : Nat} (hW : 2 * g.monitorRoom + (rest.map fun v => v.category).sum = W) (h1 : rm.frames + 1 ≤ R.frames) (h2 : W + (maxL + 11) + rm.locals ≤ R.locals) (h3 : cells + rm.cells ≤ R.cells) (h4 : slots + rm.slots ≤ R.slots) :
    own_CameW p l e R s m args below meth c T locs (cells + rm.cells) (slots + rm.slots) Z own g 5 rest Q := by
  obtain ⟨cq, kq, qa, qb, qc⟩ := isOf hZ eT E
  obtain ⟨v, _, ⟨T', L', k', n'⟩, -, X', hS', hgr, ⟨Lc, hQ, l1, y1, z1⟩, st⟩ := X.interfaceBackS hx (xi := y) (y := z) hown (mvT hZ w1) (mvT hZ w2) w7 (mvT hZ w5) (mvT hZ w6) (mvT hZ w8) (mvT hZ w9) (mvT hZ w10) hy (backOfS (W := W) hM hZ w4 w3 h1 h2) qa qb qc (g := g) hg hsize (Steps.refl _) (argsL := argsL) (rest := rest) (lenOf hd hl) hstack (Nat.le_of_eq hW) hdg (fun _ _ => ⟨ha, eT, h3, h4⟩)
  dsimp only [Pt.U, Pt.locs, Pt.cells, Pt.slots] at X' hS' hgr l1 y1 z1 st hQ
  subst l1 y1 z1
  obtain ⟨r1, r2, r3, r4⟩ := rebS hS (by rw [eT]; exact hk) X' hS' hgr hZ hown
  exact ⟨T', v, Lc, r1, r2, r3, r4, hQ, fun _ k => st.trans k⟩
theorem own_callPW (X : Stand p l e R (s.setVm vm₀) m args below meth c T locs cells slots) (hx : p.tables.exec = Jvm.exec) (hZ : Z.Warmed39 (s.setVm vm₀).vm) (hS : s.Since vm₀ k₀) (hk : k₀ ≤ h.size) {own : String} {index : Nat} {y : MethodName} {bytes : ByteArray} {maxL : Nat} {ret : Option FieldType} {rm : Room} {as' : Array Value} {Q : Option Value → Heap → List Loc → Prop}
    (hown : (s.setVm vm₀).vm.findClass own = some m.cls) (w1 : (Cond.methodLink own index y).before a0 Z = true) (w6 : (Cond.instanceMethod y).before a0 Z = true) (w5 : (Cond.selects y.cls y y).before args (s.setVm vm₀) = true) (w7 : (Cond.privateMethod y).before a0 Z = true) (w3 : (Cond.initialized y.cls).before a0 Z = true) (w4 : (Cond.code y bytes maxL ret).before a0 Z = true)
    (hy : y.cls ≠ "java/lang/invoke/MethodHandle" ∧ y.cls ≠ "java/lang/invoke/VarHandle") (hM : own_MetW l y bytes maxL ret [] rm Z h as' Q) (eT : T.heap = h) {a : Addr} {C : String} (E : Exa Z h a C) {ps : List FieldType} {r : Option FieldType} (hd : parseMethodDescriptor y.desc = some ⟨ps, r⟩) {argsL rest : List Value} (hl : argsL.length = ps.length) (ha : (.ref a :: argsL).toArray = as')
    {g : JFrame} (hg : g.method = m) (hsize : g.locals.size = c.maxLocals) (hstack : g.stack = argsL.reverse ++ .ref a :: rest) (hdg : decode c.code g.pc = .ok (.invokevirtual index, 3)) {W : Nat} (hW : 2 * g.monitorRoom + (rest.map fun v => v.category).sum = W) (h1 : rm.frames + 1 ≤ R.frames) (h2 : W + (maxL + 11) + rm.locals ≤ R.locals) (h3 : cells + rm.cells ≤ R.cells) (h4 : slots + rm.slots ≤ R.slots) :
    own_CameW p l e R s m args below meth c T locs (cells + rm.cells) (slots + rm.slots) Z own g 3 rest Q := by
  obtain ⟨cq, q, q'⟩ := E.cell
  obtain ⟨v, _, ⟨T', L', k', n'⟩, -, X', hS', hgr, ⟨Lc, hQ, l1, y1, z1⟩, st⟩ := privateBackS X hx (y := y) hown (mvT hZ w1) (mvT hZ w6) w5 (Cond.privateMethod_at (mvP hZ w7 (args := #[]))) (mvT hZ w4) hy (backOfS (W := W) hM hZ w4 w3 h1 h2) (g := g) hg hsize (Steps.refl _) (a := a) (by rw [eT]; exact q) q' (argsL := argsL) (rest := rest) (lenOf hd hl) hstack (Nat.le_of_eq hW) hdg (fun _ _ => ⟨ha, eT, h3, h4⟩)
  dsimp only [Pt.U, Pt.locs, Pt.cells, Pt.slots] at X' hS' hgr l1 y1 z1 st hQ
  subst l1 y1 z1
  obtain ⟨r1, r2, r3, r4⟩ := rebS hS (by rw [eT]; exact hk) X' hS' hgr hZ hown
  exact ⟨T', v, Lc, r1, r2, r3, r4, hQ, fun _ k => st.trans k⟩
end OwnW
section OwnHeld
variable {p : Program} {l : Launch} {e : Env} {R : Room} {s : State} {m : MethodId} {args : Array Value} {below : List Frame} {meth : Method} {c : Code} {T : State} {locs : List Loc} {cells slots : Nat} {Z : State} {a0 : Array Value} {h : Heap} {vm₀ : Vm} {k₀ : Nat} {EL : List (String × Nat)} {h0 : Heap} {sf : List Addr}
def own_PH (s : State) (Z : State) (EL : List (String × Nat)) (Q : Option Value → Heap → List Loc → Prop) (rc rs : Nat) (o : Outcome) (U : State) : Prop := ∃ v L, o = .returned v ∧ Q v U.heap L ∧ CHr Z EL s.vm s.heap U.vm U.heap ∧ ReturnedEndW s o U L rc rs
theorem own_retH (X : Stand p l e R (s.setVm vm₀) m args below meth c T locs cells slots) (hS : s.Since vm₀ k₀) (hk : k₀ ≤ h.size) (eT : T.heap = h) (hZ : Z.Warmed39 (s.setVm vm₀).vm) (hEL : EW Z a0 EL) (hs0 : s.heap = h0) (hR : CHr Z EL s.vm h0 vm₀ h) {Q : Option Value → Heap → List Loc → Prop} {rc rs : Nat} {g : JFrame} {v : Option Value} (hlk : meth.locks = false) (hv : meth.sig.returnType = none → v = none) (hq : Q v T.heap locs) (hc : cells ≤ rc) (hl : slots ≤ rs)
    (k : ∀ fs, (∀ (f : JFrame) (acts : List Action), f.method = m → f.locked = none → f.entered = [] → (doReturn e (T.setTop f) acts v).1 = T.setFrames fs) → Steps p.tables e below (T.setTop g) (T.setFrames fs)) : own_Go p e below (own_PH s Z EL Q rc rs) (T.setTop g) := by
  have hC : CHr Z EL s.vm s.heap T.vm T.heap := by
    rw [hs0, eT]; exact hR.trans (CHv.at X hZ hEL hR.1)
  obtain ⟨fs, hr, hrun, hended, hR'⟩ := X.leaveW hS (by rw [eT]; exact hk) (v := v) hv hlk
  exact ⟨_, _, k fs hr, hrun, hended, _, _, rfl, hq, hC, hR'.1, hR'.2.1, hR'.2.2.1, hR'.2.2.2.mono hc hl⟩
theorem own_retVH (X : Stand p l e R (s.setVm vm₀) m args below meth c T locs cells slots) (hS : s.Since vm₀ k₀) (hk : k₀ ≤ h.size) (eT : T.heap = h) (hZ : Z.Warmed39 (s.setVm vm₀).vm) (hEL : EW Z a0 EL) (hs0 : s.heap = h0) (hR : CHr Z EL s.vm h0 vm₀ h) (hx : p.tables.exec = Jvm.exec) {Q : Option Value → Heap → List Loc → Prop} {rc rs pc : Nat} {Ls : Array Slot} (hlk : meth.locks = false) (hret : meth.sig.returnType = none) (hd : decode c.code pc = .ok (.return_, 1)) (hc : cells ≤ rc) (hl : slots ≤ rs) (hq : Q none T.heap locs) : own_Go p e below (own_PH s Z EL Q rc rs) (T.setTop (mkF m pc Ls [])) :=
  own_retH X hS hk eT hZ hEL hs0 hR hlk (fun _ => rfl) hq hc hl fun _ hr => X.returnOut hx hret hd hr
theorem own_retXH (X : Stand p l e R (s.setVm vm₀) m args below meth c T locs cells slots) (hS : s.Since vm₀ k₀) (hk : k₀ ≤ h.size) (eT : T.heap = h) (hZ : Z.Warmed39 (s.setVm vm₀).vm) (hEL : EW Z a0 EL) (hs0 : s.heap = h0) (hR : CHr Z EL s.vm h0 vm₀ h) (hx : p.tables.exec = Jvm.exec) {Q : Option Value → Heap → List Loc → Prop} {rc rs pc : Nat} {Ls : Array Slot} {w : Value} {t : FieldType} {i : Instr} {rest : List Value} (hlk : meth.locks = false) (hret : meth.sig.returnType = some t) (hn : narrow t w = w)
    (hi : (i = .ireturn ∧ (t = .int ∨ t = .boolean ∨ t = .byte ∨ t = .char ∨ t = .short) ∧ ∃ z, w = .int z) ∨ (i = .lreturn ∧ t = .long ∧ ∃ z, w = .long z) ∨ (i = .dreturn ∧ t = .double ∧ ∃ z, w = .double z) ∨ (i = .freturn ∧ t = .float ∧ ∃ z, w = .float z) ∨ (i = .areturn ∧ t.isReference = true ∧ w.isRef = true))
    (hd : decode c.code pc = .ok (i, 1)) (hc : cells ≤ rc) (hl : slots ≤ rs) (hq : Q (some w) T.heap locs) : own_Go p e below (own_PH s Z EL Q rc rs) (T.setTop (mkF m pc Ls (w :: rest))) :=
  own_retH X hS hk eT hZ hEL hs0 hR hlk (fun q => by rw [hret] at q; cases q) hq hc hl fun _ hr => retOut X hx hret hn hi hd hr
abbrev own_MetH (EL : List (String × Nat)) (sf : List Addr) (l : Launch) (y : MethodName) (bytes : ByteArray) (maxL : Nat) (ret : Option FieldType) (ws : List Cond) (rm : Room) (Z : State) (h : Heap) (as' : Array Value) (Q : Option Value → Heap → List Loc → Prop) : Prop :=
  MetFree l y (head1 (Cond.code y bytes maxL ret :: ws) rm) (fun a U => a = as' ∧ Z.Warmed39 U.vm ∧ U.heap = h ∧ CHv Z EL U.vm h ∧ ∀ x ∈ sf, Safe Z EL U.vm h x) (fun _ _ _ _ _ => True) (fun _ U o U' => ∃ v L, o = .returned v ∧ Q v U'.heap L ∧ CHr Z EL U.vm U.heap U'.vm U'.heap ∧ ReturnedEndW U o U' L rm.cells rm.slots)
theorem own_bodyH {y : MethodName} {bytes : ByteArray} {maxL : Nat} {ret : Option FieldType} {rm : Room} {ws : List Cond} {as' : Array Value} {Q : Option Value → Heap → List Loc → Prop} (hn : plainFor y = true)
    (b : ∀ (p : Program) (e : Env) (s : State) (m : MethodId) (below : List Frame) (meth : Method) (c : Code) (s₁ : State), p.tables.exec = Jvm.exec → c.code = bytes → c.maxLocals = maxL → (s.setVm s.vm).vm.findClass y.cls = some m.cls → meth.name = y.name → meth.sig.returnType = ret → meth.locks = false → Z.Warmed39 (s.setVm s.vm).vm → s₁.heap = h → Stand p l e rm (s.setVm s.vm) m as' below meth c s₁ [] 0 0 → s.Since s.vm 0 → s.heap = h → CHv Z EL s.vm h → (∀ x ∈ sf, Safe Z EL s.vm h x) →
      own_Go p e below (own_PH s Z EL Q rm.cells rm.slots) (s₁.setTop (entryFrame m as' maxL))) :
    own_MetH EL sf l y bytes maxL ret ws rm Z h as' Q := by
  refine MetFree.of_bodySF hn hisR ?_
  intro p e s m args below meth c s₁ Bd hml0 hP hK
  obtain ⟨rfl, hZ, hh, hC, hsf⟩ := hP
  exact b p e s m below meth c s₁ Bd.exec Bd.bytes hml0 (findClass_of_methodNamed Bd.named) (name_of_methodNamed Bd.named Bd.method).1 Bd.returns Bd.notSynchronized hZ (by rw [← hh, Bd.state]; rfl) (Stand.of_body Bd) ((State.WarmedH.refl s).since 0) hh hC hsf
theorem own_backH {y : MethodName} {bytes : ByteArray} {maxL : Nat} {ret : Option FieldType} {rm : Room} {len W : Nat} {as' : Array Value} {Q : Option Value → Heap → List Loc → Prop} (hM : own_MetH EL sf l y bytes maxL ret [] rm Z h as' Q)
    (hZ : Z.Warmed39 vm₀) (wc : (Cond.code y bytes maxL ret).before a0 Z = true) (wz : (Cond.initialized y.cls).before a0 Z = true) (hf : rm.frames + 1 ≤ R.frames) (hl : W + (maxL + 11) + rm.locals ≤ R.locals) (hEL : EW Z a0 EL) (H : CHv Z EL vm₀ h) (hsf : ∀ x ∈ sf, x < h.size ∧ Safe Z EL vm₀ h x) :
    BackS l R p e below (s.setVm vm₀) args y len W (fun A a => a = as' ∧ A.U.heap = h ∧ A.cells + rm.cells ≤ R.cells ∧ A.slots + rm.slots ≤ R.slots)
      (fun A _ v B => ∃ L, Q v B.U.heap L ∧ B.locs = A.locs ++ L ∧ B.cells = A.cells + rm.cells ∧ B.slots = A.slots + rm.slots ∧ CHr Z EL vm₀ h B.U.vm B.U.heap) :=
  BackS.of_freeW (bytes := bytes) (maxL := maxL) (ret := ret) (E := fun _ first o t L k n => k = rm.cells ∧ n = rm.slots ∧ (∃ v, o = .returned v ∧ Q v t.heap L) ∧ CHr Z EL first.vm first.heap t.vm t.heap) hM hf hl
    (fun m meth c A a Y hp => have hU : Z.Warmed39 A.U.vm := wtrans (s := s.setVm vm₀) hZ Y.warmed
      ⟨by show (Cond.and _ .tt).before a A.U = true; rw [Cond.before_and, mv hU wc]; rfl, mv hU wc, mv hU wz, hp.2.2.1, hp.2.2.2⟩)
    (fun m meth c A a g mk Y hp => have K := CHv.at Y hZ hEL H; ⟨hp.1, wtrans (s := s.setVm vm₀) hZ Y.warmed, hp.2.1, K.1, fun x q => K.safe (hsf x q).1 (hsf x q).2⟩) (fun _ _ _ _ _ _ _ _ _ => trivial)
    (fun _ _ _ _ ⟨v, L, h1, h2, h3, h4⟩ => ⟨L, _, _, h4, rfl, rfl, ⟨v, h1, h2⟩, h3⟩)
    (fun m meth c A a g mk v t L k n Y hp _ _ ⟨e1, e2, ⟨v', e3, e4⟩, e5⟩ => by
      cases e3; subst e1 e2
      refine ⟨L, e4, rfl, rfl, rfl, (CHv.at Y hZ hEL H).trans ?_⟩
      rw [← hp.2.1]; exact e5)
theorem own_sf0 {vm : Vm} : ∀ x ∈ ([] : List Addr), x < h.size ∧ Safe Z EL vm h x := fun _ q => nomatch q
theorem own_sfS {vm : Vm} {x : Addr} (lt : x < h.size) (n : Safe Z EL vm h x) (r : ∀ y ∈ sf, y < h.size ∧ Safe Z EL vm h y) : ∀ y ∈ x :: sf, y < h.size ∧ Safe Z EL vm h y := fun y q => by
  rcases List.mem_cons.mp q with rfl | q
  · exact ⟨lt, n⟩
  · exact r y q
abbrev own_CameH (EL : List (String × Nat)) (vm₀ : Vm) (h : Heap) (p : Program) (l : Launch) (e : Env) (R : Room) (s : State) (m : MethodId) (args : Array Value) (below : List Frame) (meth : Method) (c : Code) (T : State) (locs : List Loc) (cells slots : Nat) (Z : State) (own : String) (g : JFrame) (len : Nat) (rest : List Value) (Q : Option Value → Heap → List Loc → Prop) : Prop :=
  ∃ (T' : State) (v : Option Value) (L : List Loc), Stand p l e R (s.setVm T'.vm) m args below meth c T' (locs ++ L) cells slots ∧ s.Since T'.vm T'.heap.size ∧ Z.Warmed39 (s.setVm T'.vm).vm ∧ (s.setVm T'.vm).vm.findClass own = some m.cls ∧ Q v T'.heap L ∧ CHr Z EL vm₀ h T'.vm T'.heap ∧ ∀ t, Steps p.tables e below (T'.setTop { g with pc := g.pc + len, stack := v.toList ++ rest }) t → Steps p.tables e below (T.setTop g) t
theorem own_callSH (X : Stand p l e R (s.setVm vm₀) m args below meth c T locs cells slots) (hx : p.tables.exec = Jvm.exec) (hZ : Z.Warmed39 (s.setVm vm₀).vm) (hS : s.Since vm₀ k₀) (hk : k₀ ≤ h.size) (hEL : EW Z a0 EL) (H : CHv Z EL vm₀ h) (hsf : ∀ x ∈ sf, x < h.size ∧ Safe Z EL vm₀ h x) {own : String} {index : Nat} {y : MethodName} {bytes : ByteArray} {maxL : Nat} {ret : Option FieldType} {rm : Room} {as' : Array Value} {Q : Option Value → Heap → List Loc → Prop}
    (hown : (s.setVm vm₀).vm.findClass own = some m.cls) (w1 : (Cond.methodLink own index y).before a0 Z = true) (w2 : (Cond.static y).before a0 Z = true) (w3 : (Cond.initialized y.cls).before a0 Z = true) (w4 : (Cond.code y bytes maxL ret).before a0 Z = true)
    (hy : y.cls ≠ "java/lang/invoke/MethodHandle" ∧ y.cls ≠ "java/lang/invoke/VarHandle") (hM : own_MetH EL sf l y bytes maxL ret [] rm Z h as' Q) (eT : T.heap = h) {ps : List FieldType} {r : Option FieldType} (hd : parseMethodDescriptor y.desc = some ⟨ps, r⟩) {argsL rest : List Value} (hl : argsL.length = ps.length) (ha : argsL.toArray = as')
    {g : JFrame} (hg : g.method = m) (hsize : g.locals.size = c.maxLocals) (hstack : g.stack = argsL.reverse ++ rest) (hdg : decode c.code g.pc = .ok (.invokestatic index, 3)) {W : Nat} (hW : 2 * g.monitorRoom + (rest.map fun v => v.category).sum = W) (h1 : rm.frames + 1 ≤ R.frames) (h2 : W + (maxL + 11) + rm.locals ≤ R.locals) (h3 : cells + rm.cells ≤ R.cells) (h4 : slots + rm.slots ≤ R.slots) :
    own_CameH EL vm₀ h p l e R s m args below meth c T locs (cells + rm.cells) (slots + rm.slots) Z own g 3 rest Q := by
  obtain ⟨v, _, ⟨T', L', k', n'⟩, -, X', hS', hgr, ⟨Lc, hQ, l1, y1, z1, hr⟩, st⟩ := callSS X hx (y := y) hown (mvT hZ w1) (mvT hZ w2) (mvT hZ w3) (mvT hZ w4) hy (own_backH (W := W) hM hZ w4 w3 h1 h2 hEL H hsf) (g := g) hg hsize (argsL := argsL) (rest := rest) (lenOf hd hl) hstack (Nat.le_of_eq hW) hdg (fun _ _ => ⟨ha, eT, h3, h4⟩)
  dsimp only [Pt.U, Pt.locs, Pt.cells, Pt.slots] at X' hS' hgr l1 y1 z1 st hQ hr
  subst l1 y1 z1
  obtain ⟨r1, r2, r3, r4⟩ := rebS hS (by rw [eT]; exact hk) X' hS' hgr hZ hown
  exact ⟨T', v, Lc, r1, r2, r3, r4, hQ, hr, fun _ k => st.trans k⟩
theorem own_callNH (X : Stand p l e R (s.setVm vm₀) m args below meth c T locs cells slots) (hx : p.tables.exec = Jvm.exec) (hZ : Z.Warmed39 (s.setVm vm₀).vm) (hS : s.Since vm₀ k₀) (hk : k₀ ≤ h.size) (hEL : EW Z a0 EL) (H : CHv Z EL vm₀ h) (hsf : ∀ x ∈ sf, x < h.size ∧ Safe Z EL vm₀ h x) {own : String} {index : Nat} {y : MethodName} {bytes : ByteArray} {maxL : Nat} {rm : Room} {as' : Array Value} {Q : Option Value → Heap → List Loc → Prop} (hy1 : y.name = "<init>")
    (hown : (s.setVm vm₀).vm.findClass own = some m.cls) (w1 : (Cond.methodLink own index y).before a0 Z = true) (w2 : (Cond.instanceMethod y).before a0 Z = true) (w3 : (Cond.initialized y.cls).before a0 Z = true) (w4 : (Cond.code y bytes maxL none).before a0 Z = true)
    (hy : y.cls ≠ "java/lang/invoke/MethodHandle" ∧ y.cls ≠ "java/lang/invoke/VarHandle") (hM : own_MetH EL sf l y bytes maxL none [] rm Z h as' Q) (eT : T.heap = h) {ps : List FieldType} {r : Option FieldType} (hd : parseMethodDescriptor y.desc = some ⟨ps, r⟩) {a : Addr} {argsL rest : List Value} (hl : argsL.length = ps.length) (ha : (.ref a :: argsL).toArray = as')
    {g : JFrame} (hg : g.method = m) (hsize : g.locals.size = c.maxLocals) (hstack : g.stack = argsL.reverse ++ .ref a :: rest) (hdg : decode c.code g.pc = .ok (.invokespecial index, 3)) {W : Nat} (hW : 2 * g.monitorRoom + (rest.map fun v => v.category).sum = W) (h1 : rm.frames + 1 ≤ R.frames) (h2 : W + (maxL + 11) + rm.locals ≤ R.locals) (h3 : cells + rm.cells ≤ R.cells) (h4 : slots + rm.slots ≤ R.slots) :
    own_CameH EL vm₀ h p l e R s m args below meth c T locs (cells + rm.cells) (slots + rm.slots) Z own g 3 rest Q := by
  obtain ⟨v, _, ⟨T', L', k', n'⟩, -, X', hS', hgr, ⟨Lc, hQ, l1, y1, z1, hr⟩, st⟩ := X.specialBackS hx (y := y) hy1 hown (mvT hZ w1) (mvT hZ w2) (mvT hZ w4) hy (own_backH (W := W) hM hZ w4 w3 h1 h2 hEL H hsf) (g := g) hg hsize (Steps.refl _) (a := a) (argsL := argsL) (rest := rest) (lenOf hd hl) hstack (Nat.le_of_eq hW) hdg (fun _ _ => ⟨ha, eT, h3, h4⟩)
  dsimp only [Pt.U, Pt.locs, Pt.cells, Pt.slots] at X' hS' hgr l1 y1 z1 st hQ hr
  subst l1 y1 z1
  obtain ⟨r1, r2, r3, r4⟩ := rebS hS (by rw [eT]; exact hk) X' hS' hgr hZ hown
  exact ⟨T', v, Lc, r1, r2, r3, r4, hQ, hr, fun _ k => st.trans k⟩
theorem own_callVH (X : Stand p l e R (s.setVm vm₀) m args below meth c T locs cells slots) (hx : p.tables.exec = Jvm.exec) (hZ : Z.Warmed39 (s.setVm vm₀).vm) (hS : s.Since vm₀ k₀) (hk : k₀ ≤ h.size) (hEL : EW Z a0 EL) (H : CHv Z EL vm₀ h) (hsf : ∀ x ∈ sf, x < h.size ∧ Safe Z EL vm₀ h x) {own C : String} {index : Nat} {y z : MethodName} {bytes : ByteArray} {maxL : Nat} {ret : Option FieldType} {rm : Room} {as' : Array Value} {Q : Option Value → Heap → List Loc → Prop}
    (hown : (s.setVm vm₀).vm.findClass own = some m.cls) (w1 : (Cond.methodLink own index y).before a0 Z = true) (w2 : (Cond.declares y).before a0 Z = true) (hnf : NotFace (s.setVm vm₀) y) (w5 : (Cond.selects C y z).before a0 Z = true) (w6 : (Cond.instanceMethod z).before a0 Z = true) (w3 : (Cond.initialized z.cls).before a0 Z = true) (w4 : (Cond.code z bytes maxL ret).before a0 Z = true)
    (hy : y.cls ≠ "java/lang/invoke/MethodHandle" ∧ y.cls ≠ "java/lang/invoke/VarHandle") (hM : own_MetH EL sf l z bytes maxL ret [] rm Z h as' Q) (eT : T.heap = h) {a : Addr} (E : Exa Z h a C) {ps : List FieldType} {r : Option FieldType} (hd : parseMethodDescriptor y.desc = some ⟨ps, r⟩) {argsL rest : List Value} (hl : argsL.length = ps.length) (ha : (.ref a :: argsL).toArray = as')
    {g : JFrame} (hg : g.method = m) (hsize : g.locals.size = c.maxLocals) (hstack : g.stack = argsL.reverse ++ .ref a :: rest) (hdg : decode c.code g.pc = .ok (.invokevirtual index, 3)) {W : Nat} (hW : 2 * g.monitorRoom + (rest.map fun v => v.category).sum = W) (h1 : rm.frames + 1 ≤ R.frames) (h2 : W + (maxL + 11) + rm.locals ≤ R.locals) (h3 : cells + rm.cells ≤ R.cells) (h4 : slots + rm.slots ≤ R.slots) :
    own_CameH EL vm₀ h p l e R s m args below meth c T locs (cells + rm.cells) (slots + rm.slots) Z own g 3 rest Q := by
  obtain ⟨cq, kq, qa, qb, qc⟩ := isOf hZ eT E
  obtain ⟨v, _, ⟨T', L', k', n'⟩, -, X', hS', hgr, ⟨Lc, hQ, l1, y1, z1, hr⟩, st⟩ := X.virtualBackS hx (y := y) (z := z) hown (mvT hZ w1) (mvT hZ w2) hnf (mvT hZ w5) (mvT hZ w6) hy (own_backH (W := W) hM hZ w4 w3 h1 h2 hEL H hsf) qa qc (g := g) hg hsize (Steps.refl _) (argsL := argsL) (rest := rest) (lenOf hd hl) hstack (Nat.le_of_eq hW) hdg (fun _ _ => ⟨ha, eT, h3, h4⟩)
  dsimp only [Pt.U, Pt.locs, Pt.cells, Pt.slots] at X' hS' hgr l1 y1 z1 st hQ hr
  subst l1 y1 z1
  obtain ⟨r1, r2, r3, r4⟩ := rebS hS (by rw [eT]; exact hk) X' hS' hgr hZ hown
  exact ⟨T', v, Lc, r1, r2, r3, r4, hQ, hr, fun _ k => st.trans k⟩
theorem own_callUH (X : Stand p l e R (s.setVm vm₀) m args below meth c T locs cells slots) (hx : p.tables.exec = Jvm.exec) (hZ : Z.Warmed39 (s.setVm vm₀).vm) (hS : s.Since vm₀ k₀) (hk : k₀ ≤ h.size) (hEL : EW Z a0 EL) (H : CHv Z EL vm₀ h) (hsf : ∀ x ∈ sf, x < h.size ∧ Safe Z EL vm₀ h x) {own C owner : String} {index : Nat} {y z : MethodName} {bytes : ByteArray} {maxL : Nat} {ret : Option FieldType} {rm : Room} {as' : Array Value} {Q : Option Value → Heap → List Loc → Prop}
    (hown : (s.setVm vm₀).vm.findClass own = some m.cls) (w1 : (Cond.methodLink own index y).before a0 Z = true) (w7 : (Cond.sameMethod y.cls owner y.name y.desc).before a0 Z = true) (w2 : (Cond.declares ⟨owner, y.name, y.desc⟩).before a0 Z = true) (w5 : (Cond.selects C y z).before a0 Z = true) (w6 : (Cond.instanceMethod z).before a0 Z = true) (w3 : (Cond.initialized z.cls).before a0 Z = true) (w4 : (Cond.code z bytes maxL ret).before a0 Z = true)
    (hy : owner ≠ "java/lang/invoke/MethodHandle" ∧ owner ≠ "java/lang/invoke/VarHandle") (hM : own_MetH EL sf l z bytes maxL ret [] rm Z h as' Q) (eT : T.heap = h) {a : Addr} (E : Exa Z h a C) {ps : List FieldType} {r : Option FieldType} (hd : parseMethodDescriptor y.desc = some ⟨ps, r⟩) {argsL rest : List Value} (hl : argsL.length = ps.length) (ha : (.ref a :: argsL).toArray = as')
    {g : JFrame} (hg : g.method = m) (hsize : g.locals.size = c.maxLocals) (hstack : g.stack = argsL.reverse ++ .ref a :: rest) (hdg : decode c.code g.pc = .ok (.invokevirtual index, 3)) {W : Nat} (hW : 2 * g.monitorRoom + (rest.map fun v => v.category).sum = W) (h1 : rm.frames + 1 ≤ R.frames) (h2 : W + (maxL + 11) + rm.locals ≤ R.locals) (h3 : cells + rm.cells ≤ R.cells) (h4 : slots + rm.slots ≤ R.slots) :
    own_CameH EL vm₀ h p l e R s m args below meth c T locs (cells + rm.cells) (slots + rm.slots) Z own g 3 rest Q := by
  obtain ⟨cq, kq, qa, qb, qc⟩ := isOf hZ eT E
  obtain ⟨v, _, ⟨T', L', k', n'⟩, -, X', hS', hgr, ⟨Lc, hQ, l1, y1, z1, hr⟩, st⟩ := virtualBackUpS X hx (x := y) (y := z) hown (mvT hZ w1) (mvT hZ w7) (mvT hZ w2) hy (mvT hZ w5) (mvT hZ w6) (own_backH (W := W) hM hZ w4 w3 h1 h2 hEL H hsf) qa qc (g := g) hg hsize (Steps.refl _) (argsL := argsL) (rest := rest) (lenOf hd hl) hstack (Nat.le_of_eq hW) hdg (fun _ _ => ⟨ha, eT, h3, h4⟩)
  dsimp only [Pt.U, Pt.locs, Pt.cells, Pt.slots] at X' hS' hgr l1 y1 z1 st hQ hr
  subst l1 y1 z1
  obtain ⟨r1, r2, r3, r4⟩ := rebS hS (by rw [eT]; exact hk) X' hS' hgr hZ hown
  exact ⟨T', v, Lc, r1, r2, r3, r4, hQ, hr, fun _ k => st.trans k⟩
theorem own_callIH (X : Stand p l e R (s.setVm vm₀) m args below meth c T locs cells slots) (hx : p.tables.exec = Jvm.exec) (hZ : Z.Warmed39 (s.setVm vm₀).vm) (hS : s.Since vm₀ k₀) (hk : k₀ ≤ h.size) (hEL : EW Z a0 EL) (H : CHv Z EL vm₀ h) (hsf : ∀ x ∈ sf, x < h.size ∧ Safe Z EL vm₀ h x) {own C : String} {index count : Nat} {y z : MethodName} {bytes : ByteArray} {maxL : Nat} {ret : Option FieldType} {rm : Room} {as' : Array Value} {Q : Option Value → Heap → List Loc → Prop}
    (hown : (s.setVm vm₀).vm.findClass own = some m.cls) (w1 : (Cond.methodLink own index y).before a0 Z = true) (w2 : (Cond.declares y).before a0 Z = true) (w7 : (Cond.interfaceMethod y.cls y.cls y.name y.desc).before args (s.setVm vm₀) = true) (w5 : (Cond.selects C y z).before a0 Z = true) (w6 : (Cond.instanceMethod z).before a0 Z = true) (w8 : (Cond.publicMethod z).before a0 Z = true) (w9 : (Cond.unhidden C y.name y.desc).before a0 Z = true) (w10 : (Cond.castable C y.cls).before a0 Z = true) (w3 : (Cond.initialized z.cls).before a0 Z = true) (w4 : (Cond.code z bytes maxL ret).before a0 Z = true)
    (hy : y.cls ≠ "java/lang/invoke/MethodHandle" ∧ y.cls ≠ "java/lang/invoke/VarHandle") (hM : own_MetH EL sf l z bytes maxL ret [] rm Z h as' Q) (eT : T.heap = h) {a : Addr} (E : Exa Z h a C) {ps : List FieldType} {r : Option FieldType} (hd : parseMethodDescriptor y.desc = some ⟨ps, r⟩) {argsL rest : List Value} (hl : argsL.length = ps.length) (ha : (.ref a :: argsL).toArray = as')
    {g : JFrame} (hg : g.method = m) (hsize : g.locals.size = c.maxLocals) (hstack : g.stack = argsL.reverse ++ .ref a :: rest) (hdg : decode c.code g.pc = .ok (.invokeinterface index count, 5)) {W : Nat} (hW : 2 * g.monitorRoom + (rest.map fun v => v.category).sum = W) (h1 : rm.frames + 1 ≤ R.frames) (h2 : W + (maxL + 11) + rm.locals ≤ R.locals) (h3 : cells + rm.cells ≤ R.cells) (h4 : slots + rm.slots ≤ R.slots) :
    own_CameH EL vm₀ h p l e R s m args below meth c T locs (cells + rm.cells) (slots + rm.slots) Z own g 5 rest Q := by
  obtain ⟨cq, kq, qa, qb, qc⟩ := isOf hZ eT E
  obtain ⟨v, _, ⟨T', L', k', n'⟩, -, X', hS', hgr, ⟨Lc, hQ, l1, y1, z1, hr⟩, st⟩ := X.interfaceBackS hx (xi := y) (y := z) hown (mvT hZ w1) (mvT hZ w2) w7 (mvT hZ w5) (mvT hZ w6) (mvT hZ w8) (mvT hZ w9) (mvT hZ w10) hy (own_backH (W := W) hM hZ w4 w3 h1 h2 hEL H hsf) qa qb qc (g := g) hg hsize (Steps.refl _) (argsL := argsL) (rest := rest) (lenOf hd hl) hstack (Nat.le_of_eq hW) hdg (fun _ _ => ⟨ha, eT, h3, h4⟩)
  dsimp only [Pt.U, Pt.locs, Pt.cells, Pt.slots] at X' hS' hgr l1 y1 z1 st hQ hr
  subst l1 y1 z1
  obtain ⟨r1, r2, r3, r4⟩ := rebS hS (by rw [eT]; exact hk) X' hS' hgr hZ hown
  exact ⟨T', v, Lc, r1, r2, r3, r4, hQ, hr, fun _ k => st.trans k⟩
theorem own_callPH (X : Stand p l e R (s.setVm vm₀) m args below meth c T locs cells slots) (hx : p.tables.exec = Jvm.exec) (hZ : Z.Warmed39 (s.setVm vm₀).vm) (hS : s.Since vm₀ k₀) (hk : k₀ ≤ h.size) (hEL : EW Z a0 EL) (H : CHv Z EL vm₀ h) (hsf : ∀ x ∈ sf, x < h.size ∧ Safe Z EL vm₀ h x) {own : String} {index : Nat} {y : MethodName} {bytes : ByteArray} {maxL : Nat} {ret : Option FieldType} {rm : Room} {as' : Array Value} {Q : Option Value → Heap → List Loc → Prop}
    (hown : (s.setVm vm₀).vm.findClass own = some m.cls) (w1 : (Cond.methodLink own index y).before a0 Z = true) (w6 : (Cond.instanceMethod y).before a0 Z = true) (w5 : (Cond.selects y.cls y y).before args (s.setVm vm₀) = true) (w7 : (Cond.privateMethod y).before a0 Z = true) (w3 : (Cond.initialized y.cls).before a0 Z = true) (w4 : (Cond.code y bytes maxL ret).before a0 Z = true)
    (hy : y.cls ≠ "java/lang/invoke/MethodHandle" ∧ y.cls ≠ "java/lang/invoke/VarHandle") (hM : own_MetH EL sf l y bytes maxL ret [] rm Z h as' Q) (eT : T.heap = h) {a : Addr} {C : String} (E : Exa Z h a C) {ps : List FieldType} {r : Option FieldType} (hd : parseMethodDescriptor y.desc = some ⟨ps, r⟩) {argsL rest : List Value} (hl : argsL.length = ps.length) (ha : (.ref a :: argsL).toArray = as')
    {g : JFrame} (hg : g.method = m) (hsize : g.locals.size = c.maxLocals) (hstack : g.stack = argsL.reverse ++ .ref a :: rest) (hdg : decode c.code g.pc = .ok (.invokevirtual index, 3)) {W : Nat} (hW : 2 * g.monitorRoom + (rest.map fun v => v.category).sum = W) (h1 : rm.frames + 1 ≤ R.frames) (h2 : W + (maxL + 11) + rm.locals ≤ R.locals) (h3 : cells + rm.cells ≤ R.cells) (h4 : slots + rm.slots ≤ R.slots) :
    own_CameH EL vm₀ h p l e R s m args below meth c T locs (cells + rm.cells) (slots + rm.slots) Z own g 3 rest Q := by
  obtain ⟨cq, q, q'⟩ := E.cell
  obtain ⟨v, _, ⟨T', L', k', n'⟩, -, X', hS', hgr, ⟨Lc, hQ, l1, y1, z1, hr⟩, st⟩ := privateBackS X hx (y := y) hown (mvT hZ w1) (mvT hZ w6) w5 (Cond.privateMethod_at (mvP hZ w7 (args := #[]))) (mvT hZ w4) hy (own_backH (W := W) hM hZ w4 w3 h1 h2 hEL H hsf) (g := g) hg hsize (Steps.refl _) (a := a) (by rw [eT]; exact q) q' (argsL := argsL) (rest := rest) (lenOf hd hl) hstack (Nat.le_of_eq hW) hdg (fun _ _ => ⟨ha, eT, h3, h4⟩)
  dsimp only [Pt.U, Pt.locs, Pt.cells, Pt.slots] at X' hS' hgr l1 y1 z1 st hQ hr
  subst l1 y1 z1
  obtain ⟨r1, r2, r3, r4⟩ := rebS hS (by rw [eT]; exact hk) X' hS' hgr hZ hown
  exact ⟨T', v, Lc, r1, r2, r3, r4, hQ, hr, fun _ k => st.trans k⟩
end OwnHeld
theorem own_strW {a0 : Array Value} {Z : State} (hw : ∀ d ∈ tables_1, d.before a0 Z = true) : ∀ a ∈ Bundle.stringAtoms, a.before a0 Z = true := fun a ha => hw a (by revert a; decide +kernel)
abbrev own_EL : List (String × Nat) := [("java/lang/String", 7)]
theorem own_hEL {a0 : Array Value} {Z : State} (hw : own_H a0 Z) : EW Z a0 own_EL := (EW.cons (own_w hw 18 rfl) (by decide) EW.nil)
theorem own_stne {t : Term} {k j : Int32} {args : Array Value} {Z : State} (ht : t.eval args Z none [] Z = some (.int j)) (h : (Cond.not (Cond.eq t (.int k))).value args Z none Z [] = some true) : ¬ j = k := by
  have h2 := not_v h
  simpa [Cond.value, ht, Term.int_eval] using h2
theorem own_steq {t : Term} {k : Int32} {args : Array Value} {Z : State} (h : (Cond.eq t (.int k)).value args Z none Z [] = some true) : t.eval args Z none [] Z = some (.int k) := by
  obtain ⟨x, y, ea, eb, -, k2⟩ := cmp_v (Or.inl h)
  obtain rfl : y = .int k := (Option.some.inj (eb.symm.trans (Term.int_eval k)))
  obtain ⟨z, rfl⟩ := k2
  obtain rfl : z = k := by simpa [Cond.value, ea, eb] using h
  exact ea
def own_C16 (v : Int32) : Prop := v.toUInt32.toUInt16.toUInt32.toInt32 = v
theorem own_c16 (x : Int32) : own_C16 (nar .char x) := by
  unfold own_C16 nar
  apply Int32.toBitVec_inj.1
  apply BitVec.eq_of_toNat_eq
  simp
theorem own_m16 (x : BitVec 32) : x % 65536#32 = x &&& 65535#32 := by
  apply BitVec.eq_of_toNat_eq
  simp only [BitVec.toNat_umod, BitVec.toNat_and]
  exact (Nat.and_two_pow_sub_one_eq_mod _ 16).symm
theorem own_l8 (i : Nat) : (255#32).getLsbD i = decide (i < 8) := by
  rw [show (255#32) = BitVec.ofNat 32 (2^8-1) from rfl, BitVec.getLsbD_ofNat, Nat.testBit_two_pow_sub_one]
  by_cases h : i < 8
  · simp [h]; omega
  · simp [h]
theorem own_l16 (i : Nat) : (65535#32).getLsbD i = decide (i < 16) := by
  rw [show (65535#32) = BitVec.ofNat 32 (2^16-1) from rfl, BitVec.getLsbD_ofNat, Nat.testBit_two_pow_sub_one]
  by_cases h : i < 16
  · simp [h]; omega
  · simp [h]
theorem own_gc (c : Int32) (h : own_C16 c) : (((((c >>> ((0 : Int32) &&& 31)).toInt8.toInt32) &&& (255 : Int32)) <<< ((0 : Int32) &&& 31)) ||| ((((c >>> ((8 : Int32) &&& 31)).toInt8.toInt32) &&& (255 : Int32)) <<< ((8 : Int32) &&& 31))).toUInt32.toUInt16.toUInt32.toInt32 = c := by
  unfold own_C16 at h
  conv => rhs; rw [← h]
  apply Int32.toBitVec_inj.1
  simp
  simp only [own_m16]
  apply BitVec.eq_of_getLsbD_eq
  intro i hi
  simp only [BitVec.getLsbD_or, BitVec.getLsbD_and, BitVec.getLsbD_shiftLeft, own_l8, own_l16, BitVec.getLsbD_signExtend, BitVec.getLsbD_sshiftRight]
  by_cases h8 : i < 8
  · have h16 : i < 16 := by omega
    simp [h8, h16, hi]
  · by_cases h16 : i < 16
    · have e : 8 + (i - 8) = i := by omega
      have a1 : i - 8 < 8 := by omega
      have a2 : i - 8 < 32 := by omega
      simp [h8, h16, hi, e, a1, a2]
    · simp [h8, h16]
theorem own_c255 (x : Int32) : ¬ (255 : Int32) < (x &&& (255 : Int32)).toUInt32.toUInt16.toUInt32.toInt32 := by
  rw [i2c_mask, Int32.lt_iff_toInt_lt]
  have h1 := c_and x 255 (by decide)
  omega
theorem own_c255n (x : Int32) : ¬ (255 : Int32) < nar .char (x &&& (255 : Int32)).toUInt32.toUInt16.toUInt32.toInt32 := by
  have h : nar .char (x &&& (255 : Int32)).toUInt32.toUInt16.toUInt32.toInt32 = (x &&& (255 : Int32)).toUInt32.toUInt16.toUInt32.toInt32 := Value.int.inj (own_narC _)
  rw [h]; exact own_c255 x
def own_S (Z : State) (wcs : Int32) (wd : Addr) : Prop := Sta Z Z.heap "java/lang/String" "COMPACT_STRINGS" "Z" (.int wcs) ∧ ¬ wcs = (0 : Int32) ∧ Sta Z Z.heap "java/util/ArrayList" "DEFAULTCAPACITY_EMPTY_ELEMENTDATA" "[Ljava/lang/Object;" (.ref wd)
theorem own_d_jdk_52_21_0 : decode jdk_52_method_21_code 0 = .ok (.iconst 0, 1) := by decide +kernel
theorem own_d_jdk_52_21_1 : decode jdk_52_method_21_code 1 = .ok (.istore 5, 2) := by decide +kernel
theorem own_d_jdk_52_21_3 : decode jdk_52_method_21_code 3 = .ok (.iload 5, 2) := by decide +kernel
theorem own_d_jdk_52_21_5 : decode jdk_52_method_21_code 5 = .ok (.iload 4, 2) := by decide +kernel
theorem own_d_jdk_52_21_7 : decode jdk_52_method_21_code 7 = .ok (.if_icmp .ge 37, 3) := by decide +kernel
theorem own_d_jdk_52_21_10 : decode jdk_52_method_21_code 10 = .ok (.aload_n 0, 1) := by decide +kernel
theorem own_d_jdk_52_21_11 : decode jdk_52_method_21_code 11 = .ok (.iload_n 1, 1) := by decide +kernel
theorem own_d_jdk_52_21_12 : decode jdk_52_method_21_code 12 = .ok (.caload, 1) := by decide +kernel
theorem own_d_jdk_52_21_13 : decode jdk_52_method_21_code 13 = .ok (.istore 6, 2) := by decide +kernel
theorem own_d_jdk_52_21_15 : decode jdk_52_method_21_code 15 = .ok (.iload 6, 2) := by decide +kernel
theorem own_d_jdk_52_21_17 : decode jdk_52_method_21_code 17 = .ok (.sipush 255, 3) := by decide +kernel
theorem own_d_jdk_52_21_20 : decode jdk_52_method_21_code 20 = .ok (.if_icmp .le 6, 3) := by decide +kernel
theorem own_d_jdk_52_21_26 : decode jdk_52_method_21_code 26 = .ok (.aload_n 2, 1) := by decide +kernel
theorem own_d_jdk_52_21_27 : decode jdk_52_method_21_code 27 = .ok (.iload_n 3, 1) := by decide +kernel
theorem own_d_jdk_52_21_28 : decode jdk_52_method_21_code 28 = .ok (.iload 6, 2) := by decide +kernel
theorem own_d_jdk_52_21_30 : decode jdk_52_method_21_code 30 = .ok (.i2b, 1) := by decide +kernel
theorem own_d_jdk_52_21_31 : decode jdk_52_method_21_code 31 = .ok (.bastore, 1) := by decide +kernel
theorem own_d_jdk_52_21_32 : decode jdk_52_method_21_code 32 = .ok (.iinc 1 1, 3) := by decide +kernel
theorem own_d_jdk_52_21_35 : decode jdk_52_method_21_code 35 = .ok (.iinc 3 1, 3) := by decide +kernel
theorem own_d_jdk_52_21_38 : decode jdk_52_method_21_code 38 = .ok (.iinc 5 1, 3) := by decide +kernel
theorem own_d_jdk_52_21_41 : decode jdk_52_method_21_code 41 = .ok (.goto (-38), 3) := by decide +kernel
theorem own_lm_21 : ("[C" : String) ≠ "[B" := by decide +kernel
theorem own_d_jdk_52_21_44 : decode jdk_52_method_21_code 44 = .ok (.iload 4, 2) := by decide +kernel
theorem own_d_jdk_52_21_46 : decode jdk_52_method_21_code 46 = .ok (.ireturn, 1) := by decide +kernel
abbrev own_y_24 : MethodName := ⟨"java/lang/StringUTF16", "compress", "([CI[BII)I"⟩
theorem own_pn_25 : plainName "java/lang/StringUTF16" = true := by first | (simp [plainName, overriddenIn]; done) | decide +kernel
theorem own_ef_rmCp2_2 (m : MethodId) (a : Addr) (b : Addr)  : entryFrame m #[(.ref a), (.int (0 : Int32)), (.ref b), (.int (0 : Int32)), (.int (2 : Int32))] 7 = mkF m 0 #[.val (.ref a), .val (.int (0 : Int32)), .val (.ref b), .val (.int (0 : Int32)), .val (.int (2 : Int32)), .unset, .unset] [] := by first | (simp [entryFrame, mkF, argsToLocals, Value.category, maxLocals]; done) | rfl
def QrmCp2_2 (Z : State) (wcs : Int32) (wd : Addr) (a : Addr) (ka : ClassId) (b : Addr) (kb : ClassId) (v0 : Int32) (v1 : Int32) (h0 : Heap) (n0 : Nat) (v : Option Value) (h : Heap) (L : List Loc) : Prop := v = some (.int (2 : Int32)) ∧ Fr n0 L ∧ Keep h0 h [b] ∧ Exa Z h b "[B" ∧ Arv Z h b kb .byte (2 : Int32) [(.int (v0.toInt8.toInt32)), (.int (v1.toInt8.toInt32))] (.int (0 : Int32))
set_option maxRecDepth 65536 in
set_option maxHeartbeats 40000000 in
theorem rmCp2_2 (l : Launch) (Z : State) (a0 : Array Value) (hw : own_H a0 Z) (ws : List Jvm.Cond) (wcs : Int32) (wd : Addr) (hS : own_S Z wcs wd) (a : Addr) (ka : ClassId) (b : Addr) (kb : ClassId) (v0 : Int32) (v1 : Int32) (h0 : Heap) (n0 : Nat) (O0 : Old Z n0 h0) (Ea : Exa Z h0 a "[C") (Eb : Exa Z h0 b "[B") (gb : n0 ≤ b) (A1 : Arv Z h0 a ka .char (2 : Int32) [(.int v0), (.int v1)] (.int (0 : Int32))) (A2 : Arv Z h0 b kb .byte (2 : Int32) [(.int (0 : Int32)), (.int (0 : Int32))] (.int (0 : Int32))) (hq0 : ¬ (255 : Int32) < v0) (hq1 : ¬ (255 : Int32) < v1) :
    own_Met l own_y_24 jdk_52_method_21_code 7 (some .int) ws ({ frames := 0, cells := 0, slots := 0, locals := 0 } : Room) Z h0 #[(.ref a), (.int (0 : Int32)), (.ref b), (.int (0 : Int32)), (.int (2 : Int32))] (QrmCp2_2 Z wcs wd a ka b kb v0 v1 h0 n0) := by
  refine own_body (plainFor_of_name own_pn_25) ?_
  intro p e s m below meth c s₁ hx hby hml hown hnm hret hlk hZ e0 X0
  have N0 := Fr.nil n0
  refine own_st (fun u_ k_ => castTop (own_ef_rmCp2_2 m a b) k_) ?_
  show own_Go p e below _ (s₁.setTop (mkF m 0 #[.val (.ref a), .val (.int (0 : Int32)), .val (.ref b), .val (.int (0 : Int32)), .val (.int (2 : Int32)), .unset, .unset] []))
  refine own_st (fun u_ k_ => XS.iconst X0.here hx rfl (hb hby own_d_jdk_52_21_0) k_) ?_
  refine own_st (fun u_ k_ => XS.istore X0.here hx rfl (hb hby own_d_jdk_52_21_1) rfl (l' := #[.val (.ref a), .val (.int (0 : Int32)), .val (.ref b), .val (.int (0 : Int32)), .val (.int (2 : Int32)), .val (.int (0 : Int32)), .unset]) rfl k_) ?_
  show own_Go p e below _ (s₁.setTop (mkF m 3 #[.val (.ref a), .val (.int (0 : Int32)), .val (.ref b), .val (.int (0 : Int32)), .val (.int (2 : Int32)), .val (.int (0 : Int32)), .unset] []))
  refine own_st (fun u_ k_ => XS.iload X0.here hx rfl (hb hby own_d_jdk_52_21_3) rfl k_) ?_
  refine own_st (fun u_ k_ => XS.iload X0.here hx rfl (hb hby own_d_jdk_52_21_5) rfl k_) ?_
  show own_Go p e below _ (s₁.setTop (mkF m 7 #[.val (.ref a), .val (.int (0 : Int32)), .val (.ref b), .val (.int (0 : Int32)), .val (.int (2 : Int32)), .val (.int (0 : Int32)), .unset] [(.int (2 : Int32)), (.int (0 : Int32))]))
  refine own_st (fun u_ k_ => XS.icmpNo X0.here hx rfl (hb hby own_d_jdk_52_21_7) rfl (XT.ii_ge_f (by decide)) k_) ?_
  refine own_st (fun u_ k_ => XS.aloadN X0.here hx rfl (hb hby own_d_jdk_52_21_10) rfl rfl k_) ?_
  show own_Go p e below _ (s₁.setTop (mkF m 11 #[.val (.ref a), .val (.int (0 : Int32)), .val (.ref b), .val (.int (0 : Int32)), .val (.int (2 : Int32)), .val (.int (0 : Int32)), .unset] [(.ref a)]))
  refine own_st (fun u_ k_ => XS.iloadN X0.here hx rfl (hb hby own_d_jdk_52_21_11) rfl k_) ?_
  obtain ⟨cl1, Ar1, q1, S1, N1, H1, G1⟩ := id A1
  have hi1 : ¬ ((0 : Int32) < 0 ∨ cl1.slots.size ≤ ((0 : Int32)).toNatClampNeg) := inb_of S1 ⟨by decide, by decide⟩
  have ha1 : cl1.slots[((0 : Int32)).toNatClampNeg]? = some (.int v0) := H1.at hi1 rfl
  refine own_st (X0.caload hx (j := (0 : Int32)) (v := (.int v0)) (by rw [e0]; exact Ar1.1) (State.isArrayOf_alike hZ.alike Ar1.2.1) Ar1.2.2 hi1 ha1 (g := (mkF m 12 #[.val (.ref a), .val (.int (0 : Int32)), .val (.ref b), .val (.int (0 : Int32)), .val (.int (2 : Int32)), .val (.int (0 : Int32)), .unset] [(.int (0 : Int32)), (.ref a)])) rfl rfl (hb hby own_d_jdk_52_21_12)) ?_
  show own_Go p e below _ (s₁.setTop (mkF m 13 #[.val (.ref a), .val (.int (0 : Int32)), .val (.ref b), .val (.int (0 : Int32)), .val (.int (2 : Int32)), .val (.int (0 : Int32)), .unset] [(.int v0)]))
  refine own_st (fun u_ k_ => XS.istore X0.here hx rfl (hb hby own_d_jdk_52_21_13) rfl (l' := #[.val (.ref a), .val (.int (0 : Int32)), .val (.ref b), .val (.int (0 : Int32)), .val (.int (2 : Int32)), .val (.int (0 : Int32)), .val (.int v0)]) rfl k_) ?_
  show own_Go p e below _ (s₁.setTop (mkF m 15 #[.val (.ref a), .val (.int (0 : Int32)), .val (.ref b), .val (.int (0 : Int32)), .val (.int (2 : Int32)), .val (.int (0 : Int32)), .val (.int v0)] []))
  refine own_st (fun u_ k_ => XS.iload X0.here hx rfl (hb hby own_d_jdk_52_21_15) rfl k_) ?_
  refine own_st (fun u_ k_ => XS.sipush X0.here hx rfl (hb hby own_d_jdk_52_21_17) k_) ?_
  show own_Go p e below _ (s₁.setTop (mkF m 20 #[.val (.ref a), .val (.int (0 : Int32)), .val (.ref b), .val (.int (0 : Int32)), .val (.int (2 : Int32)), .val (.int (0 : Int32)), .val (.int v0)] [(.int (255 : Int32)), (.int v0)]))
  refine own_st (fun u_ k_ => XS.icmpYes X0.here hx rfl (pc0 := 20) (pc' := 26) rfl (hb hby own_d_jdk_52_21_20) rfl (XT.ii_le_t hq0) (by decide) (by decide) k_) ?_
  refine own_st (fun u_ k_ => XS.aloadN X0.here hx rfl (hb hby own_d_jdk_52_21_26) rfl rfl k_) ?_
  show own_Go p e below _ (s₁.setTop (mkF m 27 #[.val (.ref a), .val (.int (0 : Int32)), .val (.ref b), .val (.int (0 : Int32)), .val (.int (2 : Int32)), .val (.int (0 : Int32)), .val (.int v0)] [(.ref b)]))
  refine own_st (fun u_ k_ => XS.iloadN X0.here hx rfl (hb hby own_d_jdk_52_21_27) rfl k_) ?_
  refine own_st (fun u_ k_ => XS.iload X0.here hx rfl (hb hby own_d_jdk_52_21_28) rfl k_) ?_
  show own_Go p e below _ (s₁.setTop (mkF m 30 #[.val (.ref a), .val (.int (0 : Int32)), .val (.ref b), .val (.int (0 : Int32)), .val (.int (2 : Int32)), .val (.int (0 : Int32)), .val (.int v0)] [(.int v0), (.int (0 : Int32)), (.ref b)]))
  refine own_st (fun u_ k_ => XS.i2b X0.here hx rfl (hb hby own_d_jdk_52_21_30) rfl k_) ?_
  obtain ⟨cl2, Ar2, q2, S2, N2, H2, G2⟩ := id A2
  have hi2 : ¬ ((0 : Int32) < 0 ∨ cl2.slots.size ≤ ((0 : Int32)).toNatClampNeg) := inb_of S2 ⟨by decide, by decide⟩
  obtain ⟨T3, h3, X3, e3, W3, st3⟩ := stB X0 hx hZ e0 Ar2 (j := (0 : Int32)) hi2 (g := (mkF m 31 #[.val (.ref a), .val (.int (0 : Int32)), .val (.ref b), .val (.int (0 : Int32)), .val (.int (2 : Int32)), .val (.int (0 : Int32)), .val (.int v0)] [(.int (v0.toInt8.toInt32)), (.int (0 : Int32)), (.ref b)])) rfl rfl (hb hby own_d_jdk_52_21_31)
  rw [own_bb] at W3
  have N3 := Fr.snoc X3 N0 gb
  have V3 : Arv Z h3 b kb .byte (2 : Int32) [(.int (v0.toInt8.toInt32)), (.int (0 : Int32))] (.int (0 : Int32)) := Arv.set Ar2 q2 S2 N2 H2 G2 (fits_nar_byte _) W3 0 rfl (Nat.le_of_ble_eq_true rfl)
  refine own_st (fun u_ k_ => st3 u_ k_) ?_
  show own_Go p e below _ (T3.setTop (mkF m 32 #[.val (.ref a), .val (.int (0 : Int32)), .val (.ref b), .val (.int (0 : Int32)), .val (.int (2 : Int32)), .val (.int (0 : Int32)), .val (.int v0)] []))
  refine own_st (fun u_ k_ => XS.iinc X3.here hx rfl (hb hby own_d_jdk_52_21_32) rfl (l' := #[.val (.ref a), .val (.int (1 : Int32)), .val (.ref b), .val (.int (0 : Int32)), .val (.int (2 : Int32)), .val (.int (0 : Int32)), .val (.int v0)]) rfl k_) ?_
  refine own_st (fun u_ k_ => XS.iinc X3.here hx rfl (hb hby own_d_jdk_52_21_35) rfl (l' := #[.val (.ref a), .val (.int (1 : Int32)), .val (.ref b), .val (.int (1 : Int32)), .val (.int (2 : Int32)), .val (.int (0 : Int32)), .val (.int v0)]) rfl k_) ?_
  show own_Go p e below _ (T3.setTop (mkF m 38 #[.val (.ref a), .val (.int (1 : Int32)), .val (.ref b), .val (.int (1 : Int32)), .val (.int (2 : Int32)), .val (.int (0 : Int32)), .val (.int v0)] []))
  refine own_st (fun u_ k_ => XS.iinc X3.here hx rfl (hb hby own_d_jdk_52_21_38) rfl (l' := #[.val (.ref a), .val (.int (1 : Int32)), .val (.ref b), .val (.int (1 : Int32)), .val (.int (2 : Int32)), .val (.int (1 : Int32)), .val (.int v0)]) rfl k_) ?_
  refine own_st (fun u_ k_ => XS.goto X3.here hx rfl (pc0 := 41) (pc' := 3) rfl (hb hby own_d_jdk_52_21_41) (by decide) (by decide) k_) ?_
  show own_Go p e below _ (T3.setTop (mkF m 3 #[.val (.ref a), .val (.int (1 : Int32)), .val (.ref b), .val (.int (1 : Int32)), .val (.int (2 : Int32)), .val (.int (1 : Int32)), .val (.int v0)] []))
  refine own_st (fun u_ k_ => XS.iload X3.here hx rfl (hb hby own_d_jdk_52_21_3) rfl k_) ?_
  refine own_st (fun u_ k_ => XS.iload X3.here hx rfl (hb hby own_d_jdk_52_21_5) rfl k_) ?_
  show own_Go p e below _ (T3.setTop (mkF m 7 #[.val (.ref a), .val (.int (1 : Int32)), .val (.ref b), .val (.int (1 : Int32)), .val (.int (2 : Int32)), .val (.int (1 : Int32)), .val (.int v0)] [(.int (2 : Int32)), (.int (1 : Int32))]))
  refine own_st (fun u_ k_ => XS.icmpNo X3.here hx rfl (hb hby own_d_jdk_52_21_7) rfl (XT.ii_ge_f (by decide)) k_) ?_
  refine own_st (fun u_ k_ => XS.aloadN X3.here hx rfl (hb hby own_d_jdk_52_21_10) rfl rfl k_) ?_
  show own_Go p e below _ (T3.setTop (mkF m 11 #[.val (.ref a), .val (.int (1 : Int32)), .val (.ref b), .val (.int (1 : Int32)), .val (.int (2 : Int32)), .val (.int (1 : Int32)), .val (.int v0)] [(.ref a)]))
  refine own_st (fun u_ k_ => XS.iloadN X3.here hx rfl (hb hby own_d_jdk_52_21_11) rfl k_) ?_
  have ne4 : a ≠ b := (ne_exa Ea Eb own_lm_21)
  have F5 := (A1.other W3 ne4)
  obtain ⟨cl6, Ar6, q6, S6, N6, H6, G6⟩ := id F5
  have hi6 : ¬ ((1 : Int32) < 0 ∨ cl6.slots.size ≤ ((1 : Int32)).toNatClampNeg) := inb_of S6 ⟨by decide, by decide⟩
  have ha6 : cl6.slots[((1 : Int32)).toNatClampNeg]? = some (.int v1) := H6.at hi6 rfl
  refine own_st (X3.caload hx (j := (1 : Int32)) (v := (.int v1)) (by rw [e3]; exact Ar6.1) (State.isArrayOf_alike hZ.alike Ar6.2.1) Ar6.2.2 hi6 ha6 (g := (mkF m 12 #[.val (.ref a), .val (.int (1 : Int32)), .val (.ref b), .val (.int (1 : Int32)), .val (.int (2 : Int32)), .val (.int (1 : Int32)), .val (.int v0)] [(.int (1 : Int32)), (.ref a)])) rfl rfl (hb hby own_d_jdk_52_21_12)) ?_
  show own_Go p e below _ (T3.setTop (mkF m 13 #[.val (.ref a), .val (.int (1 : Int32)), .val (.ref b), .val (.int (1 : Int32)), .val (.int (2 : Int32)), .val (.int (1 : Int32)), .val (.int v0)] [(.int v1)]))
  refine own_st (fun u_ k_ => XS.istore X3.here hx rfl (hb hby own_d_jdk_52_21_13) rfl (l' := #[.val (.ref a), .val (.int (1 : Int32)), .val (.ref b), .val (.int (1 : Int32)), .val (.int (2 : Int32)), .val (.int (1 : Int32)), .val (.int v1)]) rfl k_) ?_
  show own_Go p e below _ (T3.setTop (mkF m 15 #[.val (.ref a), .val (.int (1 : Int32)), .val (.ref b), .val (.int (1 : Int32)), .val (.int (2 : Int32)), .val (.int (1 : Int32)), .val (.int v1)] []))
  refine own_st (fun u_ k_ => XS.iload X3.here hx rfl (hb hby own_d_jdk_52_21_15) rfl k_) ?_
  refine own_st (fun u_ k_ => XS.sipush X3.here hx rfl (hb hby own_d_jdk_52_21_17) k_) ?_
  show own_Go p e below _ (T3.setTop (mkF m 20 #[.val (.ref a), .val (.int (1 : Int32)), .val (.ref b), .val (.int (1 : Int32)), .val (.int (2 : Int32)), .val (.int (1 : Int32)), .val (.int v1)] [(.int (255 : Int32)), (.int v1)]))
  refine own_st (fun u_ k_ => XS.icmpYes X3.here hx rfl (pc0 := 20) (pc' := 26) rfl (hb hby own_d_jdk_52_21_20) rfl (XT.ii_le_t hq1) (by decide) (by decide) k_) ?_
  refine own_st (fun u_ k_ => XS.aloadN X3.here hx rfl (hb hby own_d_jdk_52_21_26) rfl rfl k_) ?_
  show own_Go p e below _ (T3.setTop (mkF m 27 #[.val (.ref a), .val (.int (1 : Int32)), .val (.ref b), .val (.int (1 : Int32)), .val (.int (2 : Int32)), .val (.int (1 : Int32)), .val (.int v1)] [(.ref b)]))
  refine own_st (fun u_ k_ => XS.iloadN X3.here hx rfl (hb hby own_d_jdk_52_21_27) rfl k_) ?_
  refine own_st (fun u_ k_ => XS.iload X3.here hx rfl (hb hby own_d_jdk_52_21_28) rfl k_) ?_
  show own_Go p e below _ (T3.setTop (mkF m 30 #[.val (.ref a), .val (.int (1 : Int32)), .val (.ref b), .val (.int (1 : Int32)), .val (.int (2 : Int32)), .val (.int (1 : Int32)), .val (.int v1)] [(.int v1), (.int (1 : Int32)), (.ref b)]))
  refine own_st (fun u_ k_ => XS.i2b X3.here hx rfl (hb hby own_d_jdk_52_21_30) rfl k_) ?_
  obtain ⟨cl7, Ar7, q7, S7, N7, H7, G7⟩ := id V3
  have hi7 : ¬ ((1 : Int32) < 0 ∨ cl7.slots.size ≤ ((1 : Int32)).toNatClampNeg) := inb_of S7 ⟨by decide, by decide⟩
  obtain ⟨T8, h8, X8, e8, W8, st8⟩ := stB X3 hx hZ e3 Ar7 (j := (1 : Int32)) hi7 (g := (mkF m 31 #[.val (.ref a), .val (.int (1 : Int32)), .val (.ref b), .val (.int (1 : Int32)), .val (.int (2 : Int32)), .val (.int (1 : Int32)), .val (.int v1)] [(.int (v1.toInt8.toInt32)), (.int (1 : Int32)), (.ref b)])) rfl rfl (hb hby own_d_jdk_52_21_31)
  rw [own_bb] at W8
  have N8 := Fr.snoc X8 N3 gb
  have V8 : Arv Z h8 b kb .byte (2 : Int32) [(.int (v0.toInt8.toInt32)), (.int (v1.toInt8.toInt32))] (.int (0 : Int32)) := Arv.set Ar7 q7 S7 N7 H7 G7 (fits_nar_byte _) W8 1 rfl (Nat.le_of_ble_eq_true rfl)
  refine own_st (fun u_ k_ => st8 u_ k_) ?_
  show own_Go p e below _ (T8.setTop (mkF m 32 #[.val (.ref a), .val (.int (1 : Int32)), .val (.ref b), .val (.int (1 : Int32)), .val (.int (2 : Int32)), .val (.int (1 : Int32)), .val (.int v1)] []))
  refine own_st (fun u_ k_ => XS.iinc X8.here hx rfl (hb hby own_d_jdk_52_21_32) rfl (l' := #[.val (.ref a), .val (.int (2 : Int32)), .val (.ref b), .val (.int (1 : Int32)), .val (.int (2 : Int32)), .val (.int (1 : Int32)), .val (.int v1)]) rfl k_) ?_
  refine own_st (fun u_ k_ => XS.iinc X8.here hx rfl (hb hby own_d_jdk_52_21_35) rfl (l' := #[.val (.ref a), .val (.int (2 : Int32)), .val (.ref b), .val (.int (2 : Int32)), .val (.int (2 : Int32)), .val (.int (1 : Int32)), .val (.int v1)]) rfl k_) ?_
  show own_Go p e below _ (T8.setTop (mkF m 38 #[.val (.ref a), .val (.int (2 : Int32)), .val (.ref b), .val (.int (2 : Int32)), .val (.int (2 : Int32)), .val (.int (1 : Int32)), .val (.int v1)] []))
  refine own_st (fun u_ k_ => XS.iinc X8.here hx rfl (hb hby own_d_jdk_52_21_38) rfl (l' := #[.val (.ref a), .val (.int (2 : Int32)), .val (.ref b), .val (.int (2 : Int32)), .val (.int (2 : Int32)), .val (.int (2 : Int32)), .val (.int v1)]) rfl k_) ?_
  refine own_st (fun u_ k_ => XS.goto X8.here hx rfl (pc0 := 41) (pc' := 3) rfl (hb hby own_d_jdk_52_21_41) (by decide) (by decide) k_) ?_
  show own_Go p e below _ (T8.setTop (mkF m 3 #[.val (.ref a), .val (.int (2 : Int32)), .val (.ref b), .val (.int (2 : Int32)), .val (.int (2 : Int32)), .val (.int (2 : Int32)), .val (.int v1)] []))
  refine own_st (fun u_ k_ => XS.iload X8.here hx rfl (hb hby own_d_jdk_52_21_3) rfl k_) ?_
  refine own_st (fun u_ k_ => XS.iload X8.here hx rfl (hb hby own_d_jdk_52_21_5) rfl k_) ?_
  show own_Go p e below _ (T8.setTop (mkF m 7 #[.val (.ref a), .val (.int (2 : Int32)), .val (.ref b), .val (.int (2 : Int32)), .val (.int (2 : Int32)), .val (.int (2 : Int32)), .val (.int v1)] [(.int (2 : Int32)), (.int (2 : Int32))]))
  refine own_st (fun u_ k_ => XS.icmpYes X8.here hx rfl (pc0 := 7) (pc' := 44) rfl (hb hby own_d_jdk_52_21_7) rfl (XT.ii_ge_t (by decide)) (by decide) (by decide) k_) ?_
  refine own_st (fun u_ k_ => XS.iload X8.here hx rfl (hb hby own_d_jdk_52_21_44) rfl k_) ?_
  show own_Go p e below _ (T8.setTop (mkF m 46 #[.val (.ref a), .val (.int (2 : Int32)), .val (.ref b), .val (.int (2 : Int32)), .val (.int (2 : Int32)), .val (.int (2 : Int32)), .val (.int v1)] [(.int (2 : Int32))]))
  have K9 : Keep h0 h3 [b] := (Keep.refl h0 [b]).wr W3 (Or.inl (List.mem_of_getElem? (i := 0) rfl))
  have K10 : Keep h0 h8 [b] := K9.wr W8 (Or.inl (List.mem_of_getElem? (i := 0) rfl))
  have F11 := (Exa.wr W8 (Exa.wr W3 Eb))
  exact own_retX X8 hx hlk hret rfl (Or.inl ⟨rfl, by simp, _, rfl⟩) (hb hby own_d_jdk_52_21_46) (by decide) (by decide) (show QrmCp2_2 Z wcs wd a ka b kb v0 v1 h0 n0 (some (.int (2 : Int32))) T8.heap _ from (by rw [e8]; exact ⟨rfl, N8, K10, F11, V8⟩))
theorem own_d_jdk_52_16_0 : decode jdk_52_method_16_code 0 = .ok (.iload_n 2, 1) := by decide +kernel
theorem own_d_jdk_52_16_1 : decode jdk_52_method_16_code 1 = .ok (.newarray .byte, 2) := by decide +kernel
theorem own_lm_28 : "[" ++ (newarray.typeOf .byte).toString = "[B" := by decide +kernel
theorem own_d_jdk_52_16_3 : decode jdk_52_method_16_code 3 = .ok (.astore_n 3, 1) := by decide +kernel
theorem own_d_jdk_52_16_4 : decode jdk_52_method_16_code 4 = .ok (.aload_n 0, 1) := by decide +kernel
theorem own_d_jdk_52_16_5 : decode jdk_52_method_16_code 5 = .ok (.iload_n 1, 1) := by decide +kernel
theorem own_d_jdk_52_16_6 : decode jdk_52_method_16_code 6 = .ok (.aload_n 3, 1) := by decide +kernel
theorem own_d_jdk_52_16_7 : decode jdk_52_method_16_code 7 = .ok (.iconst 0, 1) := by decide +kernel
theorem own_d_jdk_52_16_8 : decode jdk_52_method_16_code 8 = .ok (.iload_n 2, 1) := by decide +kernel
theorem own_d_jdk_52_16_9 : decode jdk_52_method_16_code 9 = .ok (.invokestatic 115, 3) := by decide +kernel
theorem own_lm_36 : ("java/lang/StringUTF16" : String) ≠ "java/lang/invoke/MethodHandle" ∧ ("java/lang/StringUTF16" : String) ≠ "java/lang/invoke/VarHandle" := by decide +kernel
theorem own_pd_37 : parseMethodDescriptor "([CI[BII)I" = some ⟨[(.array .char), .int, (.array .byte), .int, .int], some .int⟩ := by decide +kernel
theorem own_d_jdk_52_16_12 : decode jdk_52_method_16_code 12 = .ok (.istore 4, 2) := by decide +kernel
theorem own_d_jdk_52_16_14 : decode jdk_52_method_16_code 14 = .ok (.iload 4, 2) := by decide +kernel
theorem own_d_jdk_52_16_16 : decode jdk_52_method_16_code 16 = .ok (.iload_n 2, 1) := by decide +kernel
theorem own_d_jdk_52_16_17 : decode jdk_52_method_16_code 17 = .ok (.if_icmp .eq 40, 3) := by decide +kernel
theorem own_d_jdk_52_16_57 : decode jdk_52_method_16_code 57 = .ok (.aload_n 3, 1) := by decide +kernel
theorem own_d_jdk_52_16_58 : decode jdk_52_method_16_code 58 = .ok (.areturn, 1) := by decide +kernel
abbrev own_y_44 : MethodName := ⟨"java/lang/StringUTF16", "compress", "([CII)[B"⟩
theorem own_ef_rmCq2_2 (m : MethodId) (a : Addr)  : entryFrame m #[(.ref a), (.int (0 : Int32)), (.int (2 : Int32))] 6 = mkF m 0 #[.val (.ref a), .val (.int (0 : Int32)), .val (.int (2 : Int32)), .unset, .unset, .unset] [] := by first | (simp [entryFrame, mkF, argsToLocals, Value.category, maxLocals]; done) | rfl
def QrmCq2_2 (Z : State) (wcs : Int32) (wd : Addr) (a : Addr) (ka : ClassId) (v0 : Int32) (v1 : Int32) (h0 : Heap) (n0 : Nat) (v : Option Value) (h : Heap) (L : List Loc) : Prop := ∃ r : Addr, ∃ kr : ClassId, v = some (.ref r) ∧ Fr n0 L ∧ Keep h0 h [] ∧ h0.size ≤ r ∧ Exa Z h r "[B" ∧ Arv Z h r kr .byte (2 : Int32) [(.int (v0.toInt8.toInt32)), (.int (v1.toInt8.toInt32))] (.int (0 : Int32))
set_option maxRecDepth 65536 in
set_option maxHeartbeats 40000000 in
theorem rmCq2_2 (l : Launch) (Z : State) (a0 : Array Value) (hw : own_H a0 Z) (ws : List Jvm.Cond) (wcs : Int32) (wd : Addr) (hS : own_S Z wcs wd) (a : Addr) (ka : ClassId) (v0 : Int32) (v1 : Int32) (h0 : Heap) (n0 : Nat) (O0 : Old Z n0 h0) (Ea : Exa Z h0 a "[C") (A1 : Arv Z h0 a ka .char (2 : Int32) [(.int v0), (.int v1)] (.int (0 : Int32))) (hq0 : ¬ (255 : Int32) < v0) (hq1 : ¬ (255 : Int32) < v1) :
    own_Met l own_y_44 jdk_52_method_16_code 6 (some (.array .byte)) ws ({ frames := 1, cells := 1, slots := 2, locals := 18 } : Room) Z h0 #[(.ref a), (.int (0 : Int32)), (.int (2 : Int32))] (QrmCq2_2 Z wcs wd a ka v0 v1 h0 n0) := by
  refine own_body (plainFor_of_name own_pn_25) ?_
  intro p e s m below meth c s₁ hx hby hml hown hnm hret hlk hZ e0 X0
  have N0 := Fr.nil n0
  refine own_st (fun u_ k_ => castTop (own_ef_rmCq2_2 m a) k_) ?_
  show own_Go p e below _ (s₁.setTop (mkF m 0 #[.val (.ref a), .val (.int (0 : Int32)), .val (.int (2 : Int32)), .unset, .unset, .unset] []))
  refine own_st (fun u_ k_ => XS.iloadN X0.here hx rfl (hb hby own_d_jdk_52_16_0) rfl k_) ?_
  obtain ⟨T12, h12, k12, X12, e12, E12, A12, Y12, st12⟩ := newPE X0 hx hZ (own_w hw 19 rfl) e0 (g := (mkF m 1 #[.val (.ref a), .val (.int (0 : Int32)), .val (.int (2 : Int32)), .unset, .unset, .unset] [(.int (2 : Int32))])) rfl (hb hby own_d_jdk_52_16_1) rfl (by decide) (cap := 2) (by decide) (by decide) (by decide) (by decide) (ad := "[B") own_lm_28
  obtain ⟨b12, g12⟩ : ∃ z, z = h0.size := ⟨_, rfl⟩
  rw [← g12] at A12 Y12 st12
  have V12 : Arv Z h12 b12 k12 .byte (2 : Int32) [(.int (0 : Int32)), (.int (0 : Int32))] (.int (0 : Int32)) := (Arv.new A12 (by decide)).pad (pad_rep [] (.int (0 : Int32)) 2)
  refine own_st (fun u_ k_ => st12 u_ k_) ?_
  show own_Go p e below _ (T12.setTop (mkF m 3 #[.val (.ref a), .val (.int (0 : Int32)), .val (.int (2 : Int32)), .unset, .unset, .unset] [(.ref b12)]))
  refine own_st (fun u_ k_ => XS.astoreN X12.here hx rfl (hb hby own_d_jdk_52_16_3) rfl rfl (l' := #[.val (.ref a), .val (.int (0 : Int32)), .val (.int (2 : Int32)), .val (.ref b12), .unset, .unset]) rfl k_) ?_
  refine own_st (fun u_ k_ => XS.aloadN X12.here hx rfl (hb hby own_d_jdk_52_16_4) rfl rfl k_) ?_
  show own_Go p e below _ (T12.setTop (mkF m 5 #[.val (.ref a), .val (.int (0 : Int32)), .val (.int (2 : Int32)), .val (.ref b12), .unset, .unset] [(.ref a)]))
  refine own_st (fun u_ k_ => XS.iloadN X12.here hx rfl (hb hby own_d_jdk_52_16_5) rfl k_) ?_
  refine own_st (fun u_ k_ => XS.aloadN X12.here hx rfl (hb hby own_d_jdk_52_16_6) rfl rfl k_) ?_
  show own_Go p e below _ (T12.setTop (mkF m 7 #[.val (.ref a), .val (.int (0 : Int32)), .val (.int (2 : Int32)), .val (.ref b12), .unset, .unset] [(.ref b12), (.int (0 : Int32)), (.ref a)]))
  refine own_st (fun u_ k_ => XS.iconst X12.here hx rfl (hb hby own_d_jdk_52_16_7) k_) ?_
  refine own_st (fun u_ k_ => XS.iloadN X12.here hx rfl (hb hby own_d_jdk_52_16_8) rfl k_) ?_
  show own_Go p e below _ (T12.setTop (mkF m 9 #[.val (.ref a), .val (.int (0 : Int32)), .val (.int (2 : Int32)), .val (.ref b12), .unset, .unset] [(.int (2 : Int32)), (.int (0 : Int32)), (.ref b12), (.int (0 : Int32)), (.ref a)]))
  have F13 := (Exa.ext E12 Ea)
  have g14 : n0 ≤ b12 := Nat.le_trans (own_nl O0) (Nat.le_of_eq g12.symm)
  have F15 := (A1.ext E12)
  have O17 : Old Z n0 h12 := O0.ext E12
  obtain ⟨T16, v16, L16, X16, hQ16, st16⟩ := own_callS X12 hx hZ (y := own_y_24) hown (own_w hw 82 rfl) (own_w hw 83 rfl) (own_w hw 80 rfl) (own_w hw 84 rfl) own_lm_36 (rmCp2_2 l Z a0 hw [] wcs wd hS a ka b12 k12 v0 v1 h12 n0 O17 F13 Y12 g14 F15 V12 (by assumption) (by assumption)) e12 own_pd_37 (argsL := [(.ref a), (.int (0 : Int32)), (.ref b12), (.int (0 : Int32)), (.int (2 : Int32))]) (rest := []) rfl rfl (g := (mkF m 9 #[.val (.ref a), .val (.int (0 : Int32)), .val (.int (2 : Int32)), .val (.ref b12), .unset, .unset] [(.int (2 : Int32)), (.int (0 : Int32)), (.ref b12), (.int (0 : Int32)), (.ref a)])) rfl (by rw [hml]; rfl) rfl (hb hby own_d_jdk_52_16_9) (W := 0) rfl (by decide) (by decide) (by decide) (by decide)
  obtain ⟨rfl, M16, K16, F18, F19⟩ := hQ16
  have N16 := Fr.app N0 M16
  refine own_st (fun u_ k_ => st16 u_ k_) ?_
  show own_Go p e below _ (T16.setTop (mkF m 12 #[.val (.ref a), .val (.int (0 : Int32)), .val (.int (2 : Int32)), .val (.ref b12), .unset, .unset] [(.int (2 : Int32))]))
  refine own_st (fun u_ k_ => XS.istore X16.here hx rfl (hb hby own_d_jdk_52_16_12) rfl (l' := #[.val (.ref a), .val (.int (0 : Int32)), .val (.int (2 : Int32)), .val (.ref b12), .val (.int (2 : Int32)), .unset]) rfl k_) ?_
  refine own_st (fun u_ k_ => XS.iload X16.here hx rfl (hb hby own_d_jdk_52_16_14) rfl k_) ?_
  show own_Go p e below _ (T16.setTop (mkF m 16 #[.val (.ref a), .val (.int (0 : Int32)), .val (.int (2 : Int32)), .val (.ref b12), .val (.int (2 : Int32)), .unset] [(.int (2 : Int32))]))
  refine own_st (fun u_ k_ => XS.iloadN X16.here hx rfl (hb hby own_d_jdk_52_16_16) rfl k_) ?_
  refine own_st (fun u_ k_ => XS.icmpYes X16.here hx rfl (pc0 := 17) (pc' := 57) rfl (hb hby own_d_jdk_52_16_17) rfl (XT.ii_eq_t (by decide)) (by decide) (by decide) k_) ?_
  show own_Go p e below _ (T16.setTop (mkF m 57 #[.val (.ref a), .val (.int (0 : Int32)), .val (.int (2 : Int32)), .val (.ref b12), .val (.int (2 : Int32)), .unset] []))
  refine own_st (fun u_ k_ => XS.aloadN X16.here hx rfl (hb hby own_d_jdk_52_16_57) rfl rfl k_) ?_
  have K20 : Keep h0 h12 [] := (Keep.refl h0 []).ext E12
  have z22 : h0.size ≤ b12 := Nat.le_trans (Nat.le_refl _) (Nat.le_of_eq g12.symm)
  have K21 : Keep h0 T16.heap [] := K20.trans K16 (allS (Or.inr z22) all0)
  exact own_retX X16 hx hlk hret rfl (Or.inr (Or.inr (Or.inr (Or.inr ⟨rfl, rfl, rfl⟩)))) (hb hby own_d_jdk_52_16_58) (by decide) (by decide) (show QrmCq2_2 Z wcs wd a ka v0 v1 h0 n0 (some (.ref b12)) T16.heap _ from (by exact ⟨b12, k12, rfl, N16, K21, z22, F18, F19⟩))
theorem own_d_jdk_52_15_0 : decode jdk_52_method_15_code 0 = .ok (.iload_n 1, 1) := by decide +kernel
theorem own_d_jdk_52_15_1 : decode jdk_52_method_15_code 1 = .ok (.aload_n 0, 1) := by decide +kernel
theorem own_d_jdk_52_15_2 : decode jdk_52_method_15_code 2 = .ok (.arraylength, 1) := by decide +kernel
theorem own_d_jdk_52_15_3 : decode jdk_52_method_15_code 3 = .ok (.isub, 1) := by decide +kernel
theorem own_d_jdk_52_15_4 : decode jdk_52_method_15_code 4 = .ok (.bipush 31, 2) := by decide +kernel
theorem own_d_jdk_52_15_6 : decode jdk_52_method_15_code 6 = .ok (.iushr, 1) := by decide +kernel
theorem own_d_jdk_52_15_7 : decode jdk_52_method_15_code 7 = .ok (.i2b, 1) := by decide +kernel
theorem own_d_jdk_52_15_8 : decode jdk_52_method_15_code 8 = .ok (.ireturn, 1) := by decide +kernel
abbrev own_y_53 : MethodName := ⟨"java/lang/StringUTF16", "coderFromArrayLen", "([BI)B"⟩
theorem own_ef_rmCo2_2 (m : MethodId) (b : Addr)  : entryFrame m #[(.ref b), (.int (2 : Int32))] 2 = mkF m 0 #[.val (.ref b), .val (.int (2 : Int32))] [] := by first | (simp [entryFrame, mkF, argsToLocals, Value.category, maxLocals]; done) | rfl
def QrmCo2_2 (Z : State) (wcs : Int32) (wd : Addr) (b : Addr) (kb : ClassId) (vs : List Value) (h0 : Heap) (n0 : Nat) (v : Option Value) (h : Heap) (L : List Loc) : Prop := v = some (.int (0 : Int32)) ∧ Fr n0 L ∧ h = h0
set_option maxRecDepth 65536 in
set_option maxHeartbeats 40000000 in
theorem rmCo2_2 (l : Launch) (Z : State) (a0 : Array Value) (hw : own_H a0 Z) (ws : List Jvm.Cond) (wcs : Int32) (wd : Addr) (hS : own_S Z wcs wd) (b : Addr) (kb : ClassId) (vs : List Value) (h0 : Heap) (n0 : Nat) (O0 : Old Z n0 h0) (A2 : Arv Z h0 b kb .byte (2 : Int32) vs (.int (0 : Int32))) :
    own_Met l own_y_53 jdk_52_method_15_code 2 (some .byte) ws ({ frames := 0, cells := 0, slots := 0, locals := 0 } : Room) Z h0 #[(.ref b), (.int (2 : Int32))] (QrmCo2_2 Z wcs wd b kb vs h0 n0) := by
  refine own_body (plainFor_of_name own_pn_25) ?_
  intro p e s m below meth c s₁ hx hby hml hown hnm hret hlk hZ e0 X0
  have N0 := Fr.nil n0
  refine own_st (fun u_ k_ => castTop (own_ef_rmCo2_2 m b) k_) ?_
  show own_Go p e below _ (s₁.setTop (mkF m 0 #[.val (.ref b), .val (.int (2 : Int32))] []))
  refine own_st (fun u_ k_ => XS.iloadN X0.here hx rfl (hb hby own_d_jdk_52_15_0) rfl k_) ?_
  refine own_st (fun u_ k_ => XS.aloadN X0.here hx rfl (hb hby own_d_jdk_52_15_1) rfl rfl k_) ?_
  show own_Go p e below _ (s₁.setTop (mkF m 2 #[.val (.ref b), .val (.int (2 : Int32))] [(.ref b), (.int (2 : Int32))]))
  obtain ⟨cl23, Ar23, -, S23, N23, -, -⟩ := id A2
  refine own_st (X0.arraylength hx (by rw [e0]; exact Ar23.1) (State.isArrayOf_alike hZ.alike Ar23.2.1) (g := (mkF m 2 #[.val (.ref b), .val (.int (2 : Int32))] [(.ref b), (.int (2 : Int32))])) rfl rfl (hb hby own_d_jdk_52_15_2)) ?_
  rw [len_of S23 N23]
  show own_Go p e below _ (s₁.setTop (mkF m 3 #[.val (.ref b), .val (.int (2 : Int32))] [(.int (2 : Int32)), (.int (2 : Int32))]))
  refine own_st (fun u_ k_ => XS.isub X0.here hx rfl (hb hby own_d_jdk_52_15_3) rfl k_) ?_
  refine own_st (fun u_ k_ => XS.bipush X0.here hx rfl (hb hby own_d_jdk_52_15_4) k_) ?_
  show own_Go p e below _ (s₁.setTop (mkF m 6 #[.val (.ref b), .val (.int (2 : Int32))] [(.int (31 : Int32)), (.int (0 : Int32))]))
  refine own_st (fun u_ k_ => XS.iushr X0.here hx rfl (hb hby own_d_jdk_52_15_6) rfl k_) ?_
  refine own_st (fun u_ k_ => XS.i2b X0.here hx rfl (hb hby own_d_jdk_52_15_7) rfl k_) ?_
  show own_Go p e below _ (s₁.setTop (mkF m 8 #[.val (.ref b), .val (.int (2 : Int32))] [(.int (0 : Int32))]))
  exact own_retX X0 hx hlk hret rfl (Or.inl ⟨rfl, by simp, _, rfl⟩) (hb hby own_d_jdk_52_15_8) (by decide) (by decide) (show QrmCo2_2 Z wcs wd b kb vs h0 n0 (some (.int (0 : Int32))) s₁.heap _ from (by rw [e0]; exact ⟨rfl, N0, rfl⟩))
theorem own_d_jdk_42_149_0 : decode jdk_42_method_149_code 0 = .ok (.aload_n 0, 1) := by decide +kernel
theorem own_d_jdk_42_149_1 : decode jdk_42_method_149_code 1 = .ok (.invokespecial 1, 3) := by decide +kernel
theorem own_d_jdk_42_149_4 : decode jdk_42_method_149_code 4 = .ok (.iload_n 3, 1) := by decide +kernel
theorem own_d_jdk_42_149_5 : decode jdk_42_method_149_code 5 = .ok (.ifCond .ne 22, 3) := by decide +kernel
theorem own_d_jdk_42_149_27 : decode jdk_42_method_149_code 27 = .ok (.getstatic 38, 3) := by decide +kernel
theorem own_d_jdk_42_149_30 : decode jdk_42_method_149_code 30 = .ok (.ifCond .eq 28, 3) := by decide +kernel
theorem own_d_jdk_42_149_33 : decode jdk_42_method_149_code 33 = .ok (.aload_n 1, 1) := by decide +kernel
theorem own_d_jdk_42_149_34 : decode jdk_42_method_149_code 34 = .ok (.iload_n 2, 1) := by decide +kernel
theorem own_d_jdk_42_149_35 : decode jdk_42_method_149_code 35 = .ok (.iload_n 3, 1) := by decide +kernel
theorem own_d_jdk_42_149_36 : decode jdk_42_method_149_code 36 = .ok (.invokestatic 177, 3) := by decide +kernel
theorem own_pd_65 : parseMethodDescriptor "([CII)[B" = some ⟨[(.array .char), .int, .int], some (.array .byte)⟩ := by decide +kernel
theorem own_d_jdk_42_149_39 : decode jdk_42_method_149_code 39 = .ok (.astore 5, 2) := by decide +kernel
theorem own_d_jdk_42_149_41 : decode jdk_42_method_149_code 41 = .ok (.aload_n 0, 1) := by decide +kernel
theorem own_d_jdk_42_149_42 : decode jdk_42_method_149_code 42 = .ok (.aload 5, 2) := by decide +kernel
theorem own_d_jdk_42_149_44 : decode jdk_42_method_149_code 44 = .ok (.iload_n 3, 1) := by decide +kernel
theorem own_d_jdk_42_149_45 : decode jdk_42_method_149_code 45 = .ok (.invokestatic 47, 3) := by decide +kernel
theorem own_pd_71 : parseMethodDescriptor "([BI)B" = some ⟨[(.array .byte), .int], some .byte⟩ := by decide +kernel
theorem own_d_jdk_42_149_48 : decode jdk_42_method_149_code 48 = .ok (.putfield 15, 3) := by decide +kernel
theorem own_lm_73 : parseFieldDescriptor "B" = some .byte := by decide +kernel
theorem own_d_jdk_42_149_51 : decode jdk_42_method_149_code 51 = .ok (.aload_n 0, 1) := by decide +kernel
theorem own_d_jdk_42_149_52 : decode jdk_42_method_149_code 52 = .ok (.aload 5, 2) := by decide +kernel
theorem own_d_jdk_42_149_54 : decode jdk_42_method_149_code 54 = .ok (.putfield 9, 3) := by decide +kernel
theorem own_lm_77 : ("value" : String) ≠ "coder" := by decide +kernel
theorem own_lm_78 : parseFieldDescriptor "[B" = some (.array .byte) := by decide +kernel
def own_sn_79 {Z : State} {a0 : Array Value} (hw : own_H a0 Z) := slot_ne (Or.inr (own_w hw 20 rfl)) (Or.inr (own_w hw 21 rfl)) own_lm_77 (t := (.array .byte)) (t' := .byte) own_lm_78 own_lm_73
theorem own_d_jdk_42_149_57 : decode jdk_42_method_149_code 57 = .ok (.return_, 1) := by decide +kernel
theorem own_lm_81 : ("coder" : String) ≠ "value" := by decide +kernel
def own_sn_82 {Z : State} {a0 : Array Value} (hw : own_H a0 Z) := slot_ne (Or.inr (own_w hw 21 rfl)) (Or.inr (own_w hw 20 rfl)) own_lm_81 (t := .byte) (t' := (.array .byte)) own_lm_73 own_lm_78
abbrev own_y_83 : MethodName := ⟨"java/lang/String", "<init>", "([CIILjava/lang/Void;)V"⟩
theorem own_pn_84 : plainName "java/lang/String" = true := by first | (simp [plainName, overriddenIn]; done) | decide +kernel
theorem own_ef_rmS4_2_2 (m : MethodId) (a : Addr) (b : Addr)  : entryFrame m #[(.ref a), (.ref b), (.int (0 : Int32)), (.int (2 : Int32)), .null] 6 = mkF m 0 #[.val (.ref a), .val (.ref b), .val (.int (0 : Int32)), .val (.int (2 : Int32)), .val .null, .unset] [] := by first | (simp [entryFrame, mkF, argsToLocals, Value.category, maxLocals]; done) | rfl
def QrmS4_2_2 (Z : State) (wcs : Int32) (wd : Addr) (a : Addr) (b : Addr) (kb : ClassId) (v0 : Int32) (v1 : Int32) (h0 : Heap) (n0 : Nat) (v : Option Value) (h : Heap) (L : List Loc) : Prop := ∃ r : Addr, ∃ kr : ClassId, v = none ∧ Fr n0 L ∧ Keep h0 h [a] ∧ h0.size ≤ r ∧ Exa Z h a "java/lang/String" ∧ Fld Z h a "java/lang/String" "value" "[B" (.ref r) ∧ Fld Z h a "java/lang/String" "coder" "B" (.int (0 : Int32)) ∧ Exa Z h r "[B" ∧ Arv Z h r kr .byte (2 : Int32) [(.int (v0.toInt8.toInt32)), (.int (v1.toInt8.toInt32))] (.int (0 : Int32))
set_option maxRecDepth 65536 in
set_option maxHeartbeats 40000000 in
theorem rmS4_2_2 (l : Launch) (Z : State) (a0 : Array Value) (hw : own_H a0 Z) (ws : List Jvm.Cond) (wcs : Int32) (wd : Addr) (hS : own_S Z wcs wd) (a : Addr) (b : Addr) (kb : ClassId) (v0 : Int32) (v1 : Int32) (h0 : Heap) (n0 : Nat) (O0 : Old Z n0 h0) (E : Exa Z h0 a "java/lang/String") (Ea : Exa Z h0 b "[C") (ga : n0 ≤ a) (F1 : Fld Z h0 a "java/lang/String" "value" "[B" .null) (F2 : Fld Z h0 a "java/lang/String" "coder" "B" (.int (0 : Int32))) (A1 : Arv Z h0 b kb .char (2 : Int32) [(.int v0), (.int v1)] (.int (0 : Int32))) (hq0 : ¬ (255 : Int32) < v0) (hq1 : ¬ (255 : Int32) < v1) :
    own_Met l own_y_83 jdk_42_method_149_code 6 none ws ({ frames := 2, cells := 1, slots := 2, locals := 35 } : Room) Z h0 #[(.ref a), (.ref b), (.int (0 : Int32)), (.int (2 : Int32)), .null] (QrmS4_2_2 Z wcs wd a b kb v0 v1 h0 n0) := by
  refine own_body (plainFor_of_name own_pn_84) ?_
  intro p e s m below meth c s₁ hx hby hml hown hnm hret hlk hZ e0 X0
  have N0 := Fr.nil n0
  refine own_st (fun u_ k_ => castTop (own_ef_rmS4_2_2 m a b) k_) ?_
  show own_Go p e below _ (s₁.setTop (mkF m 0 #[.val (.ref a), .val (.ref b), .val (.int (0 : Int32)), .val (.int (2 : Int32)), .val .null, .unset] []))
  refine own_st (fun u_ k_ => XS.aloadN X0.here hx rfl (hb hby own_d_jdk_42_149_0) rfl rfl k_) ?_
  obtain ⟨T24, X24, e24, st24⟩ := initO X0 hx hZ hown (own_w hw 15 rfl) (own_w hw 16 rfl) (own_w hw 17 rfl) e0 (g := (mkF m 1 #[.val (.ref a), .val (.ref b), .val (.int (0 : Int32)), .val (.int (2 : Int32)), .val .null, .unset] [(.ref a)])) rfl (by rw [hml]; rfl) rfl (hb hby own_d_jdk_42_149_1) (by decide) (W := 0) (by show 2 * 0 + _ ≤ _; exact Nat.le_of_eq rfl) (by decide)
  refine own_st (fun u_ k_ => st24 u_ k_) ?_
  show own_Go p e below _ (T24.setTop (mkF m 4 #[.val (.ref a), .val (.ref b), .val (.int (0 : Int32)), .val (.int (2 : Int32)), .val .null, .unset] []))
  refine own_st (fun u_ k_ => XS.iloadN X24.here hx rfl (hb hby own_d_jdk_42_149_4) rfl k_) ?_
  refine own_st (fun u_ k_ => XS.ifYes X24.here hx rfl (pc0 := 5) (pc' := 27) rfl (hb hby own_d_jdk_42_149_5) rfl (XT.i0_ne_t (by decide)) (by decide) (by decide) k_) ?_
  show own_Go p e below _ (T24.setTop (mkF m 27 #[.val (.ref a), .val (.ref b), .val (.int (0 : Int32)), .val (.int (2 : Int32)), .val .null, .unset] []))
  have F25 := Sta.ext O0.2 hS.1
  obtain ⟨T26, X26, e26, st26⟩ := getS2 X24 hx hZ hown (host := "") (Or.inl (own_w hw 77 rfl)) Via.refl e24 F25 (g := (mkF m 27 #[.val (.ref a), .val (.ref b), .val (.int (0 : Int32)), .val (.int (2 : Int32)), .val .null, .unset] [])) rfl (hb hby own_d_jdk_42_149_27)
  refine own_st (fun u_ k_ => st26 u_ k_) ?_
  show own_Go p e below _ (T26.setTop (mkF m 30 #[.val (.ref a), .val (.ref b), .val (.int (0 : Int32)), .val (.int (2 : Int32)), .val .null, .unset] [(.int wcs)]))
  refine own_st (fun u_ k_ => XS.ifNo X26.here hx rfl (hb hby own_d_jdk_42_149_30) rfl (XT.i0_eq_f hS.2.1) k_) ?_
  refine own_st (fun u_ k_ => XS.aloadN X26.here hx rfl (hb hby own_d_jdk_42_149_33) rfl rfl k_) ?_
  show own_Go p e below _ (T26.setTop (mkF m 34 #[.val (.ref a), .val (.ref b), .val (.int (0 : Int32)), .val (.int (2 : Int32)), .val .null, .unset] [(.ref b)]))
  refine own_st (fun u_ k_ => XS.iloadN X26.here hx rfl (hb hby own_d_jdk_42_149_34) rfl k_) ?_
  refine own_st (fun u_ k_ => XS.iloadN X26.here hx rfl (hb hby own_d_jdk_42_149_35) rfl k_) ?_
  show own_Go p e below _ (T26.setTop (mkF m 36 #[.val (.ref a), .val (.ref b), .val (.int (0 : Int32)), .val (.int (2 : Int32)), .val .null, .unset] [(.int (2 : Int32)), (.int (0 : Int32)), (.ref b)]))
  obtain ⟨T27, v27, L27, X27, hQ27, st27⟩ := own_callS X26 hx hZ (y := own_y_44) hown (own_w hw 78 rfl) (own_w hw 79 rfl) (own_w hw 80 rfl) (own_w hw 81 rfl) own_lm_36 (rmCq2_2 l Z a0 hw [] wcs wd hS b kb v0 v1 h0 n0 O0 Ea A1 (by assumption) (by assumption)) e26 own_pd_65 (argsL := [(.ref b), (.int (0 : Int32)), (.int (2 : Int32))]) (rest := []) rfl rfl (g := (mkF m 36 #[.val (.ref a), .val (.ref b), .val (.int (0 : Int32)), .val (.int (2 : Int32)), .val .null, .unset] [(.int (2 : Int32)), (.int (0 : Int32)), (.ref b)])) rfl (by rw [hml]; rfl) rfl (hb hby own_d_jdk_42_149_36) (W := 0) rfl (by decide) (by decide) (by decide) (by decide)
  obtain ⟨r_28, kr_29, rfl, M27, K27, z30, F31, F32⟩ := hQ27
  have N27 := Fr.app N0 M27
  refine own_st (fun u_ k_ => st27 u_ k_) ?_
  show own_Go p e below _ (T27.setTop (mkF m 39 #[.val (.ref a), .val (.ref b), .val (.int (0 : Int32)), .val (.int (2 : Int32)), .val .null, .unset] [(.ref r_28)]))
  refine own_st (fun u_ k_ => XS.astore X27.here hx rfl (hb hby own_d_jdk_42_149_39) rfl rfl (l' := #[.val (.ref a), .val (.ref b), .val (.int (0 : Int32)), .val (.int (2 : Int32)), .val .null, .val (.ref r_28)]) rfl k_) ?_
  refine own_st (fun u_ k_ => XS.aloadN X27.here hx rfl (hb hby own_d_jdk_42_149_41) rfl rfl k_) ?_
  show own_Go p e below _ (T27.setTop (mkF m 42 #[.val (.ref a), .val (.ref b), .val (.int (0 : Int32)), .val (.int (2 : Int32)), .val .null, .val (.ref r_28)] [(.ref a)]))
  refine own_st (fun u_ k_ => XS.aload X27.here hx rfl (hb hby own_d_jdk_42_149_42) rfl rfl k_) ?_
  refine own_st (fun u_ k_ => XS.iloadN X27.here hx rfl (hb hby own_d_jdk_42_149_44) rfl k_) ?_
  show own_Go p e below _ (T27.setTop (mkF m 45 #[.val (.ref a), .val (.ref b), .val (.int (0 : Int32)), .val (.int (2 : Int32)), .val .null, .val (.ref r_28)] [(.int (2 : Int32)), (.ref r_28), (.ref a)]))
  have O34 : Old Z n0 T27.heap := O0.keep K27 all0
  obtain ⟨T33, v33, L33, X33, hQ33, st33⟩ := own_callS X27 hx hZ (y := own_y_53) hown (own_w hw 85 rfl) (own_w hw 86 rfl) (own_w hw 80 rfl) (own_w hw 87 rfl) own_lm_36 (rmCo2_2 l Z a0 hw [] wcs wd hS r_28 kr_29 [(.int (v0.toInt8.toInt32)), (.int (v1.toInt8.toInt32))] T27.heap n0 O34 F32) rfl own_pd_71 (argsL := [(.ref r_28), (.int (2 : Int32))]) (rest := [(.ref a)]) rfl rfl (g := (mkF m 45 #[.val (.ref a), .val (.ref b), .val (.int (0 : Int32)), .val (.int (2 : Int32)), .val .null, .val (.ref r_28)] [(.int (2 : Int32)), (.ref r_28), (.ref a)])) rfl (by rw [hml]; rfl) rfl (hb hby own_d_jdk_42_149_45) (W := 1) rfl (by decide) (by decide) (by decide) (by decide)
  obtain ⟨rfl, M33, e33⟩ := hQ33
  have N33 := Fr.app N27 M33
  refine own_st (fun u_ k_ => st33 u_ k_) ?_
  show own_Go p e below _ (T33.setTop (mkF m 48 #[.val (.ref a), .val (.ref b), .val (.int (0 : Int32)), .val (.int (2 : Int32)), .val .null, .val (.ref r_28)] [(.int (0 : Int32)), (.ref a)]))
  have F35 := (E.keep K27)
  have F36 := (F2.keep K27 nin0)
  obtain ⟨T37, h37, X37, e37, W37, st37⟩ := putF X33 hx hZ hown (host := "") (Or.inl (own_w hw 25 rfl)) Via.refl e33 F36 F35 (Or.inr ⟨(own_w hw 21 rfl), rfl, hnm⟩) (own_w hw 5 rfl) (ty := .byte) own_lm_73 rfl rfl (g := (mkF m 48 #[.val (.ref a), .val (.ref b), .val (.int (0 : Int32)), .val (.int (2 : Int32)), .val .null, .val (.ref r_28)] [(.int (0 : Int32)), (.ref a)])) rfl rfl (hb hby own_d_jdk_42_149_48)
  have N37 := Fr.snoc X37 N33 ga
  have F38 : Fld Z h37 a "java/lang/String" "coder" "B" (.int (0 : Int32)) := Fld.same W37 F36
  refine own_st (fun u_ k_ => st37 u_ k_) ?_
  show own_Go p e below _ (T37.setTop (mkF m 51 #[.val (.ref a), .val (.ref b), .val (.int (0 : Int32)), .val (.int (2 : Int32)), .val .null, .val (.ref r_28)] []))
  refine own_st (fun u_ k_ => XS.aloadN X37.here hx rfl (hb hby own_d_jdk_42_149_51) rfl rfl k_) ?_
  refine own_st (fun u_ k_ => XS.aload X37.here hx rfl (hb hby own_d_jdk_42_149_52) rfl rfl k_) ?_
  show own_Go p e below _ (T37.setTop (mkF m 54 #[.val (.ref a), .val (.ref b), .val (.int (0 : Int32)), .val (.int (2 : Int32)), .val .null, .val (.ref r_28)] [(.ref r_28), (.ref a)]))
  have F39 := (Exa.wr W37 F35)
  have F40 := (Fld.other W37 (F1.keep K27 nin0) (Or.inr (own_sn_79 hw)))
  obtain ⟨T41, h41, X41, e41, W41, st41⟩ := putF X37 hx hZ hown (host := "") (Or.inl (own_w hw 24 rfl)) Via.refl e37 F40 F39 (Or.inr ⟨(own_w hw 20 rfl), rfl, hnm⟩) (own_w hw 5 rfl) (ty := (.array .byte)) own_lm_78 rfl rfl (g := (mkF m 54 #[.val (.ref a), .val (.ref b), .val (.int (0 : Int32)), .val (.int (2 : Int32)), .val .null, .val (.ref r_28)] [(.ref r_28), (.ref a)])) rfl rfl (hb hby own_d_jdk_42_149_54)
  have N41 := Fr.snoc X41 N37 ga
  have F42 : Fld Z h41 a "java/lang/String" "value" "[B" (.ref r_28) := Fld.same W41 F40
  refine own_st (fun u_ k_ => st41 u_ k_) ?_
  show own_Go p e below _ (T41.setTop (mkF m 57 #[.val (.ref a), .val (.ref b), .val (.int (0 : Int32)), .val (.int (2 : Int32)), .val .null, .val (.ref r_28)] []))
  have K43 : Keep h0 T27.heap [a] := (Keep.refl h0 [a]).trans K27 all0
  have K44 : Keep h0 h37 [a] := K43.wr W37 (Or.inl (List.mem_of_getElem? (i := 0) rfl))
  have K45 : Keep h0 h41 [a] := K44.wr W41 (Or.inl (List.mem_of_getElem? (i := 0) rfl))
  have z46 : h0.size ≤ r_28 := Nat.le_trans (Nat.le_refl _) z30
  have F47 := (Exa.wr W41 F39)
  have F48 := (Fld.other W41 F38 (Or.inr (own_sn_82 hw)))
  have F49 := (Exa.wr W41 (Exa.wr W37 F31))
  have ne50 : r_28 ≠ a := (Ne.symm (Nat.ne_of_lt (Nat.lt_of_lt_of_le E.lt z30)))
  have F51 := ((F32.other W37 ne50).other W41 ne50)
  exact own_retV X41 hx hlk hret (hb hby own_d_jdk_42_149_57) (by decide) (by decide) (show QrmS4_2_2 Z wcs wd a b kb v0 v1 h0 n0 none T41.heap _ from (by rw [e41]; exact ⟨r_28, kr_29, rfl, N41, K45, z46, F47, F42, F48, F49, F51⟩))
theorem own_d_jdk_42_3_0 : decode jdk_42_method_3_code 0 = .ok (.aload_n 0, 1) := by decide +kernel
theorem own_d_jdk_42_3_1 : decode jdk_42_method_3_code 1 = .ok (.aload_n 1, 1) := by decide +kernel
theorem own_d_jdk_42_3_2 : decode jdk_42_method_3_code 2 = .ok (.iconst 0, 1) := by decide +kernel
theorem own_d_jdk_42_3_3 : decode jdk_42_method_3_code 3 = .ok (.aload_n 1, 1) := by decide +kernel
theorem own_d_jdk_42_3_4 : decode jdk_42_method_3_code 4 = .ok (.arraylength, 1) := by decide +kernel
theorem own_d_jdk_42_3_5 : decode jdk_42_method_3_code 5 = .ok (.aconst_null, 1) := by decide +kernel
theorem own_d_jdk_42_3_6 : decode jdk_42_method_3_code 6 = .ok (.invokespecial 27, 3) := by decide +kernel
theorem own_lm_92 : ("java/lang/String" : String) ≠ "java/lang/invoke/MethodHandle" ∧ ("java/lang/String" : String) ≠ "java/lang/invoke/VarHandle" := by decide +kernel
theorem own_pd_93 : parseMethodDescriptor "([CIILjava/lang/Void;)V" = some ⟨[(.array .char), .int, .int, (.object "java/lang/Void")], none⟩ := by decide +kernel
theorem own_d_jdk_42_3_9 : decode jdk_42_method_3_code 9 = .ok (.return_, 1) := by decide +kernel
abbrev own_y_95 : MethodName := ⟨"java/lang/String", "<init>", "([C)V"⟩
theorem own_ef_rmS1_2_2 (m : MethodId) (a : Addr) (b : Addr)  : entryFrame m #[(.ref a), (.ref b)] 2 = mkF m 0 #[.val (.ref a), .val (.ref b)] [] := by first | (simp [entryFrame, mkF, argsToLocals, Value.category, maxLocals]; done) | rfl
def QrmS1_2_2 (Z : State) (wcs : Int32) (wd : Addr) (a : Addr) (b : Addr) (kb : ClassId) (v0 : Int32) (v1 : Int32) (h0 : Heap) (n0 : Nat) (v : Option Value) (h : Heap) (L : List Loc) : Prop := ∃ r : Addr, ∃ kr : ClassId, v = none ∧ Fr n0 L ∧ Keep h0 h [a] ∧ h0.size ≤ r ∧ Exa Z h a "java/lang/String" ∧ Fld Z h a "java/lang/String" "value" "[B" (.ref r) ∧ Fld Z h a "java/lang/String" "coder" "B" (.int (0 : Int32)) ∧ Exa Z h r "[B" ∧ Arv Z h r kr .byte (2 : Int32) [(.int (v0.toInt8.toInt32)), (.int (v1.toInt8.toInt32))] (.int (0 : Int32))
set_option maxRecDepth 65536 in
set_option maxHeartbeats 40000000 in
theorem rmS1_2_2 (l : Launch) (Z : State) (a0 : Array Value) (hw : own_H a0 Z) (ws : List Jvm.Cond) (wcs : Int32) (wd : Addr) (hS : own_S Z wcs wd) (a : Addr) (b : Addr) (kb : ClassId) (v0 : Int32) (v1 : Int32) (h0 : Heap) (n0 : Nat) (O0 : Old Z n0 h0) (E : Exa Z h0 a "java/lang/String") (Ea : Exa Z h0 b "[C") (ga : n0 ≤ a) (F1 : Fld Z h0 a "java/lang/String" "value" "[B" .null) (F2 : Fld Z h0 a "java/lang/String" "coder" "B" (.int (0 : Int32))) (A1 : Arv Z h0 b kb .char (2 : Int32) [(.int v0), (.int v1)] (.int (0 : Int32))) (hq0 : ¬ (255 : Int32) < v0) (hq1 : ¬ (255 : Int32) < v1) :
    own_Met l own_y_95 jdk_42_method_3_code 2 none ws ({ frames := 3, cells := 1, slots := 2, locals := 52 } : Room) Z h0 #[(.ref a), (.ref b)] (QrmS1_2_2 Z wcs wd a b kb v0 v1 h0 n0) := by
  refine own_body (plainFor_of_name own_pn_84) ?_
  intro p e s m below meth c s₁ hx hby hml hown hnm hret hlk hZ e0 X0
  have N0 := Fr.nil n0
  refine own_st (fun u_ k_ => castTop (own_ef_rmS1_2_2 m a b) k_) ?_
  show own_Go p e below _ (s₁.setTop (mkF m 0 #[.val (.ref a), .val (.ref b)] []))
  refine own_st (fun u_ k_ => XS.aloadN X0.here hx rfl (hb hby own_d_jdk_42_3_0) rfl rfl k_) ?_
  refine own_st (fun u_ k_ => XS.aloadN X0.here hx rfl (hb hby own_d_jdk_42_3_1) rfl rfl k_) ?_
  show own_Go p e below _ (s₁.setTop (mkF m 2 #[.val (.ref a), .val (.ref b)] [(.ref b), (.ref a)]))
  refine own_st (fun u_ k_ => XS.iconst X0.here hx rfl (hb hby own_d_jdk_42_3_2) k_) ?_
  refine own_st (fun u_ k_ => XS.aloadN X0.here hx rfl (hb hby own_d_jdk_42_3_3) rfl rfl k_) ?_
  show own_Go p e below _ (s₁.setTop (mkF m 4 #[.val (.ref a), .val (.ref b)] [(.ref b), (.int (0 : Int32)), (.ref b), (.ref a)]))
  obtain ⟨cl52, Ar52, -, S52, N52, -, -⟩ := id A1
  refine own_st (X0.arraylength hx (by rw [e0]; exact Ar52.1) (State.isArrayOf_alike hZ.alike Ar52.2.1) (g := (mkF m 4 #[.val (.ref a), .val (.ref b)] [(.ref b), (.int (0 : Int32)), (.ref b), (.ref a)])) rfl rfl (hb hby own_d_jdk_42_3_4)) ?_
  rw [len_of S52 N52]
  show own_Go p e below _ (s₁.setTop (mkF m 5 #[.val (.ref a), .val (.ref b)] [(.int (2 : Int32)), (.int (0 : Int32)), (.ref b), (.ref a)]))
  refine own_st (fun u_ k_ => XS.aconstNull X0.here hx rfl (hb hby own_d_jdk_42_3_5) k_) ?_
  obtain ⟨T53, v53, L53, X53, hQ53, st53⟩ := own_callN X0 hx hZ (y := own_y_83) rfl hown (own_w hw 11 rfl) (own_w hw 12 rfl) (own_w hw 6 rfl) (own_w hw 14 rfl) own_lm_92 (rmS4_2_2 l Z a0 hw [] wcs wd hS a b kb v0 v1 h0 n0 O0 E Ea ga F1 F2 A1 (by assumption) (by assumption)) e0 own_pd_93 (a := a) (argsL := [(.ref b), (.int (0 : Int32)), (.int (2 : Int32)), .null]) (rest := []) rfl rfl (g := (mkF m 6 #[.val (.ref a), .val (.ref b)] [.null, (.int (2 : Int32)), (.int (0 : Int32)), (.ref b), (.ref a)])) rfl (by rw [hml]; rfl) rfl (hb hby own_d_jdk_42_3_6) (W := 0) rfl (by decide) (by decide) (by decide) (by decide)
  obtain ⟨r_54, kr_55, rfl, M53, K53, z56, F57, F58, F59, F60, F61⟩ := hQ53
  have N53 := Fr.app N0 M53
  refine own_st (fun u_ k_ => st53 u_ k_) ?_
  show own_Go p e below _ (T53.setTop (mkF m 9 #[.val (.ref a), .val (.ref b)] []))
  have K62 : Keep h0 T53.heap [a] := (Keep.refl h0 [a]).trans K53 (allS (Or.inl (List.mem_of_getElem? (i := 0) rfl)) all0)
  have z63 : h0.size ≤ r_54 := Nat.le_trans (Nat.le_refl _) z56
  exact own_retV X53 hx hlk hret (hb hby own_d_jdk_42_3_9) (by decide) (by decide) (show QrmS1_2_2 Z wcs wd a b kb v0 v1 h0 n0 none T53.heap _ from (by exact ⟨r_54, kr_55, rfl, N53, K62, z63, F57, F58, F59, F60, F61⟩))
theorem own_d_jdk_42_149_8 : decode jdk_42_method_149_code 8 = .ok (.aload_n 0, 1) := by decide +kernel
theorem own_d_jdk_42_149_9 : decode jdk_42_method_149_code 9 = .ok (.ldc 7, 2) := by decide +kernel
theorem own_lm_98 : (∀ c ∈ ("" : String).toList, c.toNat < 256) ∧ ("" : String).toList.map (fun c => Value.int (Jvm.Lit.byteI c.toNat.toUInt16)) = [] := ⟨by decide, by decide⟩
theorem own_d_jdk_42_149_11 : decode jdk_42_method_149_code 11 = .ok (.getfield 9, 3) := by decide +kernel
theorem own_d_jdk_42_149_14 : decode jdk_42_method_149_code 14 = .ok (.putfield 9, 3) := by decide +kernel
theorem own_d_jdk_42_149_17 : decode jdk_42_method_149_code 17 = .ok (.aload_n 0, 1) := by decide +kernel
theorem own_d_jdk_42_149_18 : decode jdk_42_method_149_code 18 = .ok (.ldc 7, 2) := by decide +kernel
theorem own_d_jdk_42_149_20 : decode jdk_42_method_149_code 20 = .ok (.getfield 15, 3) := by decide +kernel
theorem own_d_jdk_42_149_23 : decode jdk_42_method_149_code 23 = .ok (.putfield 15, 3) := by decide +kernel
theorem own_d_jdk_42_149_26 : decode jdk_42_method_149_code 26 = .ok (.return_, 1) := by decide +kernel
theorem own_ef_rmS4_0 (m : MethodId) (a : Addr) (b : Addr)  : entryFrame m #[(.ref a), (.ref b), (.int (0 : Int32)), (.int (0 : Int32)), .null] 6 = mkF m 0 #[.val (.ref a), .val (.ref b), .val (.int (0 : Int32)), .val (.int (0 : Int32)), .val .null, .unset] [] := by first | (simp [entryFrame, mkF, argsToLocals, Value.category, maxLocals]; done) | rfl
def QrmS4_0 (Z : State) (wcs : Int32) (wd : Addr) (a : Addr) (b : Addr) (kb : ClassId) (h0 : Heap) (n0 : Nat) (v : Option Value) (h : Heap) (L : List Loc) : Prop := ∃ r : Addr, ∃ kr : ClassId, v = none ∧ Fr n0 L ∧ Keep h0 h [a] ∧ Exa Z h a "java/lang/String" ∧ Fld Z h a "java/lang/String" "value" "[B" (.ref r) ∧ Fld Z h a "java/lang/String" "coder" "B" (.int (0 : Int32)) ∧ Arv Z h r kr .byte (0 : Int32) [] (.int (0 : Int32))
set_option maxRecDepth 65536 in
set_option maxHeartbeats 40000000 in
theorem rmS4_0 (l : Launch) (Z : State) (a0 : Array Value) (hw : own_H a0 Z) (ws : List Jvm.Cond) (wcs : Int32) (wd : Addr) (hS : own_S Z wcs wd) (a : Addr) (b : Addr) (kb : ClassId) (h0 : Heap) (n0 : Nat) (O0 : Old Z n0 h0) (E : Exa Z h0 a "java/lang/String") (Ea : Exa Z h0 b "[C") (ga : n0 ≤ a) (F1 : Fld Z h0 a "java/lang/String" "value" "[B" .null) (F2 : Fld Z h0 a "java/lang/String" "coder" "B" (.int (0 : Int32))) (A1 : Arv Z h0 b kb .char (0 : Int32) [] (.int (0 : Int32))) :
    own_MetH own_EL [a] l own_y_83 jdk_42_method_149_code 6 none ws ({ frames := 1, cells := 4, slots := 8, locals := 12 } : Room) Z h0 #[(.ref a), (.ref b), (.int (0 : Int32)), (.int (0 : Int32)), .null] (QrmS4_0 Z wcs wd a b kb h0 n0) := by
  refine own_bodyH (plainFor_of_name own_pn_84) ?_
  intro p e s m below meth c s₁ hx hby hml hown hnm hret hlk hZ e0 X0 hSi0 hs0 hC0 hsf0
  have hZ_0 := hZ
  have R0 : CHr Z own_EL s.vm h0 s.vm h0 := CHr.refl hC0
  have N0 := Fr.nil n0
  refine own_st (fun u_ k_ => castTop (own_ef_rmS4_0 m a b) k_) ?_
  show own_Go p e below _ (s₁.setTop (mkF m 0 #[.val (.ref a), .val (.ref b), .val (.int (0 : Int32)), .val (.int (0 : Int32)), .val .null, .unset] []))
  refine own_st (fun u_ k_ => XS.aloadN X0.here hx rfl (hb hby own_d_jdk_42_149_0) rfl rfl k_) ?_
  obtain ⟨T64, X64, e64, st64⟩ := initO X0 hx hZ hown (own_w hw 15 rfl) (own_w hw 16 rfl) (own_w hw 17 rfl) e0 (g := (mkF m 1 #[.val (.ref a), .val (.ref b), .val (.int (0 : Int32)), .val (.int (0 : Int32)), .val .null, .unset] [(.ref a)])) rfl (by rw [hml]; rfl) rfl (hb hby own_d_jdk_42_149_1) (by decide) (W := 0) (by show 2 * 0 + _ ≤ _; exact Nat.le_of_eq rfl) (by decide)
  refine own_st (fun u_ k_ => st64 u_ k_) ?_
  show own_Go p e below _ (T64.setTop (mkF m 4 #[.val (.ref a), .val (.ref b), .val (.int (0 : Int32)), .val (.int (0 : Int32)), .val .null, .unset] []))
  refine own_st (fun u_ k_ => XS.iloadN X64.here hx rfl (hb hby own_d_jdk_42_149_4) rfl k_) ?_
  refine own_st (fun u_ k_ => XS.ifNo X64.here hx rfl (hb hby own_d_jdk_42_149_5) rfl (XT.i0_ne_f (by decide)) k_) ?_
  show own_Go p e below _ (T64.setTop (mkF m 8 #[.val (.ref a), .val (.ref b), .val (.int (0 : Int32)), .val (.int (0 : Int32)), .val .null, .unset] []))
  refine own_st (fun u_ k_ => XS.aloadN X64.here hx rfl (hb hby own_d_jdk_42_149_8) rfl rfl k_) ?_
  obtain ⟨a65, T65, h65, j65, b65, k65, X65, e65, E65, Si65, Sk65, hZ65, hown65, Ea65, Fc65, Fv65, Av65, la65, lb65, hr65, Li65, ln65, st65⟩ := ldcCH X64 hx hZ hown (own_w hw 18 rfl) (own_strW hw) e64 hSi0 (Nat.zero_le _) (own_hEL hw) (List.mem_of_getElem? (i := 0) rfl) R0.1 (vs := []) (z := 0) own_lm_98 (by decide) rfl (g := (mkF m 9 #[.val (.ref a), .val (.ref b), .val (.int (0 : Int32)), .val (.int (0 : Int32)), .val .null, .unset] [(.ref a)])) rfl (hb hby own_d_jdk_42_149_9) (n := 0) (by decide) (by decide) (by decide) (by decide)
  refine own_st (fun u_ k_ => st65 u_ k_) ?_
  show own_Go p e below _ (T65.setTop (mkF m 11 #[.val (.ref a), .val (.ref b), .val (.int (0 : Int32)), .val (.int (0 : Int32)), .val .null, .unset] [(.ref a65), (.ref a)]))
  obtain ⟨T66, X66, e66, st66⟩ := getF X65 hx hZ65 hown65 (host := "") (Or.inl (own_w hw 24 rfl)) Via.refl e65 Fv65 (g := (mkF m 11 #[.val (.ref a), .val (.ref b), .val (.int (0 : Int32)), .val (.int (0 : Int32)), .val .null, .unset] [(.ref a65), (.ref a)])) rfl rfl (hb hby own_d_jdk_42_149_11)
  refine own_st (fun u_ k_ => st66 u_ k_) ?_
  show own_Go p e below _ (T66.setTop (mkF m 14 #[.val (.ref a), .val (.ref b), .val (.int (0 : Int32)), .val (.int (0 : Int32)), .val .null, .unset] [(.ref b65), (.ref a)]))
  have F67 := (Exa.ext E65 E)
  have F68 := (Fld.ext E65 F1)
  obtain ⟨T69, h69, X69, e69, W69, st69⟩ := putF X66 hx hZ65 hown65 (host := "") (Or.inl (own_w hw 24 rfl)) Via.refl e66 F68 F67 (Or.inr ⟨(own_w hw 20 rfl), rfl, hnm⟩) (own_w hw 5 rfl) (ty := (.array .byte)) own_lm_78 rfl rfl (g := (mkF m 14 #[.val (.ref a), .val (.ref b), .val (.int (0 : Int32)), .val (.int (0 : Int32)), .val .null, .unset] [(.ref b65), (.ref a)])) rfl rfl (hb hby own_d_jdk_42_149_14)
  have N69 := Fr.snoc X69 N0 ga
  have F70 : Fld Z h69 a "java/lang/String" "value" "[B" (.ref b65) := Fld.same W69 F68
  refine own_st (fun u_ k_ => st69 u_ k_) ?_
  show own_Go p e below _ (T69.setTop (mkF m 17 #[.val (.ref a), .val (.ref b), .val (.int (0 : Int32)), .val (.int (0 : Int32)), .val .null, .unset] []))
  refine own_st (fun u_ k_ => XS.aloadN X69.here hx rfl (hb hby own_d_jdk_42_149_17) rfl rfl k_) ?_
  have R72 : CHr Z own_EL s.vm h0 T65.vm h65 := R0.trans hr65
  have sf_74 : Safe Z own_EL s.vm h0 a := hsf0 _ (List.mem_of_getElem? (i := 0) rfl)
  have sf_75 : Safe Z own_EL T65.vm h65 a := hr65.safe E.lt sf_74
  have R73 : CHr Z own_EL s.vm h0 T65.vm h69 := R72.trans (CHr.wr W69 sf_75 R72.1)
  obtain ⟨a71, T71, h71, j71, b71, k71, X71, e71, E71, Si71, Sk71, hZ71, hown71, Ea71, Fc71, Fv71, Av71, la71, lb71, hr71, Li71, ln71, st71⟩ := ldcCH X69 hx hZ65 hown65 (own_w hw 18 rfl) (own_strW hw) e69 Si65 (Nat.le_trans Sk65 (Nat.le_of_eq W69.size.symm)) (own_hEL hw) (List.mem_of_getElem? (i := 0) rfl) R73.1 (vs := []) (z := 0) own_lm_98 (by decide) rfl (g := (mkF m 18 #[.val (.ref a), .val (.ref b), .val (.int (0 : Int32)), .val (.int (0 : Int32)), .val .null, .unset] [(.ref a)])) rfl (hb hby own_d_jdk_42_149_18) (n := 0) (by decide) (by decide) (by decide) (by decide)
  refine own_st (fun u_ k_ => st71 u_ k_) ?_
  show own_Go p e below _ (T71.setTop (mkF m 20 #[.val (.ref a), .val (.ref b), .val (.int (0 : Int32)), .val (.int (0 : Int32)), .val .null, .unset] [(.ref a71), (.ref a)]))
  obtain ⟨T76, X76, e76, st76⟩ := getF X71 hx hZ71 hown71 (host := "") (Or.inl (own_w hw 25 rfl)) Via.refl e71 Fc71 (g := (mkF m 20 #[.val (.ref a), .val (.ref b), .val (.int (0 : Int32)), .val (.int (0 : Int32)), .val .null, .unset] [(.ref a71), (.ref a)])) rfl rfl (hb hby own_d_jdk_42_149_20)
  refine own_st (fun u_ k_ => st76 u_ k_) ?_
  show own_Go p e below _ (T76.setTop (mkF m 23 #[.val (.ref a), .val (.ref b), .val (.int (0 : Int32)), .val (.int (0 : Int32)), .val .null, .unset] [(.int (0 : Int32)), (.ref a)]))
  have F77 := (Exa.ext E71 (Exa.wr W69 F67))
  have F78 := (Fld.ext E71 (Fld.other W69 (Fld.ext E65 F2) (Or.inr (own_sn_82 hw))))
  obtain ⟨T79, h79, X79, e79, W79, st79⟩ := putF X76 hx hZ71 hown71 (host := "") (Or.inl (own_w hw 25 rfl)) Via.refl e76 F78 F77 (Or.inr ⟨(own_w hw 21 rfl), rfl, hnm⟩) (own_w hw 5 rfl) (ty := .byte) own_lm_73 rfl rfl (g := (mkF m 23 #[.val (.ref a), .val (.ref b), .val (.int (0 : Int32)), .val (.int (0 : Int32)), .val .null, .unset] [(.int (0 : Int32)), (.ref a)])) rfl rfl (hb hby own_d_jdk_42_149_23)
  have N79 := Fr.snoc X79 N69 ga
  have F80 : Fld Z h79 a "java/lang/String" "coder" "B" (.int (0 : Int32)) := Fld.same W79 F78
  refine own_st (fun u_ k_ => st79 u_ k_) ?_
  show own_Go p e below _ (T79.setTop (mkF m 26 #[.val (.ref a), .val (.ref b), .val (.int (0 : Int32)), .val (.int (0 : Int32)), .val .null, .unset] []))
  have K81 : Keep h0 h65 [a] := (Keep.refl h0 [a]).ext E65
  have K82 : Keep h0 h69 [a] := K81.wr W69 (Or.inl (List.mem_of_getElem? (i := 0) rfl))
  have K83 : Keep h0 h71 [a] := K82.ext E71
  have K84 : Keep h0 h79 [a] := K83.wr W79 (Or.inl (List.mem_of_getElem? (i := 0) rfl))
  have F85 := (Exa.wr W79 F77)
  have F86 := (Fld.other W79 (Fld.ext E71 F70) (Or.inr (own_sn_79 hw)))
  have ne87 : b65 ≠ a := (Ne.symm (ln65 a sf_75).2)
  have F88 := (((Av65.other W69 ne87).ext E71).other W79 ne87)
  have R89 : CHr Z own_EL s.vm h0 T71.vm h71 := R73.trans hr71
  have sf_91 : Safe Z own_EL T65.vm h69 a := Safe.wr W69 sf_75 R72.1 sf_75
  have sf_92 : Safe Z own_EL T71.vm h71 a := hr71.safe F70.lt sf_91
  have R90 : CHr Z own_EL s.vm h0 T71.vm h79 := R89.trans (CHr.wr W79 sf_92 R89.1)
  exact own_retVH X79 Si71 (Nat.le_trans Sk71 (Nat.le_of_eq W79.size.symm)) e79 hZ71 (own_hEL hw) hs0 R90 hx hlk hret (hb hby own_d_jdk_42_149_26) (by decide) (by decide) (show QrmS4_0 Z wcs wd a b kb h0 n0 none T79.heap _ from (by rw [e79]; exact ⟨b65, k65, rfl, N79, K84, F85, F86, F80, F88⟩))
theorem own_ef_rmS1_0 (m : MethodId) (a : Addr) (b : Addr)  : entryFrame m #[(.ref a), (.ref b)] 2 = mkF m 0 #[.val (.ref a), .val (.ref b)] [] := by first | (simp [entryFrame, mkF, argsToLocals, Value.category, maxLocals]; done) | rfl
def QrmS1_0 (Z : State) (wcs : Int32) (wd : Addr) (a : Addr) (b : Addr) (kb : ClassId) (h0 : Heap) (n0 : Nat) (v : Option Value) (h : Heap) (L : List Loc) : Prop := ∃ r : Addr, ∃ kr : ClassId, v = none ∧ Fr n0 L ∧ Keep h0 h [a] ∧ Exa Z h a "java/lang/String" ∧ Fld Z h a "java/lang/String" "value" "[B" (.ref r) ∧ Fld Z h a "java/lang/String" "coder" "B" (.int (0 : Int32)) ∧ Arv Z h r kr .byte (0 : Int32) [] (.int (0 : Int32))
set_option maxRecDepth 65536 in
set_option maxHeartbeats 40000000 in
theorem rmS1_0 (l : Launch) (Z : State) (a0 : Array Value) (hw : own_H a0 Z) (ws : List Jvm.Cond) (wcs : Int32) (wd : Addr) (hS : own_S Z wcs wd) (a : Addr) (b : Addr) (kb : ClassId) (h0 : Heap) (n0 : Nat) (O0 : Old Z n0 h0) (E : Exa Z h0 a "java/lang/String") (Ea : Exa Z h0 b "[C") (ga : n0 ≤ a) (F1 : Fld Z h0 a "java/lang/String" "value" "[B" .null) (F2 : Fld Z h0 a "java/lang/String" "coder" "B" (.int (0 : Int32))) (A1 : Arv Z h0 b kb .char (0 : Int32) [] (.int (0 : Int32))) :
    own_MetH own_EL [a] l own_y_95 jdk_42_method_3_code 2 none ws ({ frames := 2, cells := 4, slots := 8, locals := 29 } : Room) Z h0 #[(.ref a), (.ref b)] (QrmS1_0 Z wcs wd a b kb h0 n0) := by
  refine own_bodyH (plainFor_of_name own_pn_84) ?_
  intro p e s m below meth c s₁ hx hby hml hown hnm hret hlk hZ e0 X0 hSi0 hs0 hC0 hsf0
  have hZ_0 := hZ
  have R0 : CHr Z own_EL s.vm h0 s.vm h0 := CHr.refl hC0
  have N0 := Fr.nil n0
  refine own_st (fun u_ k_ => castTop (own_ef_rmS1_0 m a b) k_) ?_
  show own_Go p e below _ (s₁.setTop (mkF m 0 #[.val (.ref a), .val (.ref b)] []))
  refine own_st (fun u_ k_ => XS.aloadN X0.here hx rfl (hb hby own_d_jdk_42_3_0) rfl rfl k_) ?_
  refine own_st (fun u_ k_ => XS.aloadN X0.here hx rfl (hb hby own_d_jdk_42_3_1) rfl rfl k_) ?_
  show own_Go p e below _ (s₁.setTop (mkF m 2 #[.val (.ref a), .val (.ref b)] [(.ref b), (.ref a)]))
  refine own_st (fun u_ k_ => XS.iconst X0.here hx rfl (hb hby own_d_jdk_42_3_2) k_) ?_
  refine own_st (fun u_ k_ => XS.aloadN X0.here hx rfl (hb hby own_d_jdk_42_3_3) rfl rfl k_) ?_
  show own_Go p e below _ (s₁.setTop (mkF m 4 #[.val (.ref a), .val (.ref b)] [(.ref b), (.int (0 : Int32)), (.ref b), (.ref a)]))
  obtain ⟨cl93, Ar93, -, S93, N93, -, -⟩ := id A1
  refine own_st (X0.arraylength hx (by rw [e0]; exact Ar93.1) (State.isArrayOf_alike hZ.alike Ar93.2.1) (g := (mkF m 4 #[.val (.ref a), .val (.ref b)] [(.ref b), (.int (0 : Int32)), (.ref b), (.ref a)])) rfl rfl (hb hby own_d_jdk_42_3_4)) ?_
  rw [len_of S93 N93]
  show own_Go p e below _ (s₁.setTop (mkF m 5 #[.val (.ref a), .val (.ref b)] [(.int (0 : Int32)), (.int (0 : Int32)), (.ref b), (.ref a)]))
  refine own_st (fun u_ k_ => XS.aconstNull X0.here hx rfl (hb hby own_d_jdk_42_3_5) k_) ?_
  have sf_95 : Safe Z own_EL s.vm h0 a := hsf0 _ (List.mem_of_getElem? (i := 0) rfl)
  obtain ⟨T94, v94, L94, X94, Si94, hZ94, hown94, hQ94, hr94, st94⟩ := own_callNH X0 hx hZ hSi0 (Nat.zero_le _) (own_hEL hw) R0.1 (own_sfS E.lt sf_95 own_sf0) (y := own_y_83) rfl hown (own_w hw 11 rfl) (own_w hw 12 rfl) (own_w hw 6 rfl) (own_w hw 14 rfl) own_lm_92 (rmS4_0 l Z a0 hw [] wcs wd hS a b kb h0 n0 O0 E Ea ga F1 F2 A1) e0 own_pd_93 (a := a) (argsL := [(.ref b), (.int (0 : Int32)), (.int (0 : Int32)), .null]) (rest := []) rfl rfl (g := (mkF m 6 #[.val (.ref a), .val (.ref b)] [.null, (.int (0 : Int32)), (.int (0 : Int32)), (.ref b), (.ref a)])) rfl (by rw [hml]; rfl) rfl (hb hby own_d_jdk_42_3_6) (W := 0) rfl (by decide) (by decide) (by decide) (by decide)
  obtain ⟨r_96, kr_97, rfl, M94, K94, F98, F99, F100, F101⟩ := hQ94
  have N94 := Fr.app N0 M94
  refine own_st (fun u_ k_ => st94 u_ k_) ?_
  show own_Go p e below _ (T94.setTop (mkF m 9 #[.val (.ref a), .val (.ref b)] []))
  have K102 : Keep h0 T94.heap [a] := (Keep.refl h0 [a]).trans K94 (allS (Or.inl (List.mem_of_getElem? (i := 0) rfl)) all0)
  have R103 : CHr Z own_EL s.vm h0 T94.vm T94.heap := R0.trans hr94
  exact own_retVH X94 Si94 (Nat.le_refl _) rfl hZ94 (own_hEL hw) hs0 R103 hx hlk hret (hb hby own_d_jdk_42_3_9) (by decide) (by decide) (show QrmS1_0 Z wcs wd a b kb h0 n0 none T94.heap _ from (by exact ⟨r_96, kr_97, rfl, N94, K102, F98, F99, F100, F101⟩))
theorem own_d_jdk_43_3_0 : decode jdk_43_method_3_code 0 = .ok (.iload_n 0, 1) := by decide +kernel
theorem own_d_jdk_43_3_1 : decode jdk_43_method_3_code 1 = .ok (.sipush 255, 3) := by decide +kernel
theorem own_d_jdk_43_3_4 : decode jdk_43_method_3_code 4 = .ok (.if_icmp .gt 7, 3) := by decide +kernel
theorem own_d_jdk_43_3_7 : decode jdk_43_method_3_code 7 = .ok (.iconst 1, 1) := by decide +kernel
theorem own_d_jdk_43_3_8 : decode jdk_43_method_3_code 8 = .ok (.goto 4, 3) := by decide +kernel
theorem own_d_jdk_43_3_12 : decode jdk_43_method_3_code 12 = .ok (.ireturn, 1) := by decide +kernel
abbrev own_y_112 : MethodName := ⟨"java/lang/StringLatin1", "canEncode", "(C)Z"⟩
theorem own_pn_113 : plainName "java/lang/StringLatin1" = true := by first | (simp [plainName, overriddenIn]; done) | decide +kernel
theorem own_ef_rmCE (m : MethodId) (ch : Int32)  : entryFrame m #[(.int ch)] 1 = mkF m 0 #[.val (.int ch)] [] := by first | (simp [entryFrame, mkF, argsToLocals, Value.category, maxLocals]; done) | rfl
def QrmCE (Z : State) (wcs : Int32) (wd : Addr) (ch : Int32) (h0 : Heap) (n0 : Nat) (v : Option Value) (h : Heap) (L : List Loc) : Prop := v = some (.int (1 : Int32)) ∧ Fr n0 L ∧ h = h0
set_option maxRecDepth 65536 in
set_option maxHeartbeats 40000000 in
theorem rmCE (l : Launch) (Z : State) (a0 : Array Value) (hw : own_H a0 Z) (ws : List Jvm.Cond) (wcs : Int32) (wd : Addr) (hS : own_S Z wcs wd) (ch : Int32) (h0 : Heap) (n0 : Nat) (O0 : Old Z n0 h0) (hch : ¬ (255 : Int32) < ch) :
    own_Met l own_y_112 jdk_43_method_3_code 1 (some .boolean) ws ({ frames := 0, cells := 0, slots := 0, locals := 0 } : Room) Z h0 #[(.int ch)] (QrmCE Z wcs wd ch h0 n0) := by
  refine own_body (plainFor_of_name own_pn_113) ?_
  intro p e s m below meth c s₁ hx hby hml hown hnm hret hlk hZ e0 X0
  have N0 := Fr.nil n0
  refine own_st (fun u_ k_ => castTop (own_ef_rmCE m ch) k_) ?_
  show own_Go p e below _ (s₁.setTop (mkF m 0 #[.val (.int ch)] []))
  refine own_st (fun u_ k_ => XS.iloadN X0.here hx rfl (hb hby own_d_jdk_43_3_0) rfl k_) ?_
  refine own_st (fun u_ k_ => XS.sipush X0.here hx rfl (hb hby own_d_jdk_43_3_1) k_) ?_
  show own_Go p e below _ (s₁.setTop (mkF m 4 #[.val (.int ch)] [(.int (255 : Int32)), (.int ch)]))
  refine own_st (fun u_ k_ => XS.icmpNo X0.here hx rfl (hb hby own_d_jdk_43_3_4) rfl (XT.ii_gt_f hch) k_) ?_
  refine own_st (fun u_ k_ => XS.iconst X0.here hx rfl (hb hby own_d_jdk_43_3_7) k_) ?_
  show own_Go p e below _ (s₁.setTop (mkF m 8 #[.val (.int ch)] [(.int (1 : Int32))]))
  refine own_st (fun u_ k_ => XS.goto X0.here hx rfl (pc0 := 8) (pc' := 12) rfl (hb hby own_d_jdk_43_3_8) (by decide) (by decide) k_) ?_
  exact own_retX X0 hx hlk hret rfl (Or.inl ⟨rfl, by simp, _, rfl⟩) (hb hby own_d_jdk_43_3_12) (by decide) (by decide) (show QrmCE Z wcs wd ch h0 n0 (some (.int (1 : Int32))) s₁.heap _ from (by rw [e0]; exact ⟨rfl, N0, rfl⟩))
theorem own_d_jdk_43_46_0 : decode jdk_43_method_46_code 0 = .ok (.iconst 1, 1) := by decide +kernel
theorem own_d_jdk_43_46_1 : decode jdk_43_method_46_code 1 = .ok (.newarray .byte, 2) := by decide +kernel
theorem own_d_jdk_43_46_3 : decode jdk_43_method_46_code 3 = .ok (.dup, 1) := by decide +kernel
theorem own_d_jdk_43_46_4 : decode jdk_43_method_46_code 4 = .ok (.iconst 0, 1) := by decide +kernel
theorem own_d_jdk_43_46_5 : decode jdk_43_method_46_code 5 = .ok (.iload_n 0, 1) := by decide +kernel
theorem own_d_jdk_43_46_6 : decode jdk_43_method_46_code 6 = .ok (.i2b, 1) := by decide +kernel
theorem own_d_jdk_43_46_7 : decode jdk_43_method_46_code 7 = .ok (.bastore, 1) := by decide +kernel
theorem own_d_jdk_43_46_8 : decode jdk_43_method_46_code 8 = .ok (.areturn, 1) := by decide +kernel
abbrev own_y_122 : MethodName := ⟨"java/lang/StringLatin1", "toBytes", "(C)[B"⟩
theorem own_ef_rmT1 (m : MethodId) (ch : Int32)  : entryFrame m #[(.int ch)] 1 = mkF m 0 #[.val (.int ch)] [] := by first | (simp [entryFrame, mkF, argsToLocals, Value.category, maxLocals]; done) | rfl
def QrmT1 (Z : State) (wcs : Int32) (wd : Addr) (ch : Int32) (h0 : Heap) (n0 : Nat) (v : Option Value) (h : Heap) (L : List Loc) : Prop := ∃ r : Addr, ∃ kr : ClassId, v = some (.ref r) ∧ Fr n0 L ∧ Keep h0 h [] ∧ h0.size ≤ r ∧ Exa Z h r "[B" ∧ Arv Z h r kr .byte (1 : Int32) [(.int (ch.toInt8.toInt32))] (.int (0 : Int32))
set_option maxRecDepth 65536 in
set_option maxHeartbeats 40000000 in
theorem rmT1 (l : Launch) (Z : State) (a0 : Array Value) (hw : own_H a0 Z) (ws : List Jvm.Cond) (wcs : Int32) (wd : Addr) (hS : own_S Z wcs wd) (ch : Int32) (h0 : Heap) (n0 : Nat) (O0 : Old Z n0 h0)  :
    own_Met l own_y_122 jdk_43_method_46_code 1 (some (.array .byte)) ws ({ frames := 0, cells := 1, slots := 1, locals := 0 } : Room) Z h0 #[(.int ch)] (QrmT1 Z wcs wd ch h0 n0) := by
  refine own_body (plainFor_of_name own_pn_113) ?_
  intro p e s m below meth c s₁ hx hby hml hown hnm hret hlk hZ e0 X0
  have N0 := Fr.nil n0
  refine own_st (fun u_ k_ => castTop (own_ef_rmT1 m ch) k_) ?_
  show own_Go p e below _ (s₁.setTop (mkF m 0 #[.val (.int ch)] []))
  refine own_st (fun u_ k_ => XS.iconst X0.here hx rfl (hb hby own_d_jdk_43_46_0) k_) ?_
  obtain ⟨T104, h104, k104, X104, e104, E104, A104, Y104, st104⟩ := newPE X0 hx hZ (own_w hw 19 rfl) e0 (g := (mkF m 1 #[.val (.int ch)] [(.int (1 : Int32))])) rfl (hb hby own_d_jdk_43_46_1) rfl (by decide) (cap := 1) (by decide) (by decide) (by decide) (by decide) (ad := "[B") own_lm_28
  obtain ⟨b104, g104⟩ : ∃ z, z = h0.size := ⟨_, rfl⟩
  rw [← g104] at A104 Y104 st104
  have V104 : Arv Z h104 b104 k104 .byte (1 : Int32) [(.int (0 : Int32))] (.int (0 : Int32)) := (Arv.new A104 (by decide)).pad (pad_rep [] (.int (0 : Int32)) 1)
  refine own_st (fun u_ k_ => st104 u_ k_) ?_
  show own_Go p e below _ (T104.setTop (mkF m 3 #[.val (.int ch)] [(.ref b104)]))
  refine own_st (fun u_ k_ => XS.dup X104.here hx rfl (hb hby own_d_jdk_43_46_3) rfl rfl k_) ?_
  refine own_st (fun u_ k_ => XS.iconst X104.here hx rfl (hb hby own_d_jdk_43_46_4) k_) ?_
  show own_Go p e below _ (T104.setTop (mkF m 5 #[.val (.int ch)] [(.int (0 : Int32)), (.ref b104), (.ref b104)]))
  refine own_st (fun u_ k_ => XS.iloadN X104.here hx rfl (hb hby own_d_jdk_43_46_5) rfl k_) ?_
  refine own_st (fun u_ k_ => XS.i2b X104.here hx rfl (hb hby own_d_jdk_43_46_6) rfl k_) ?_
  show own_Go p e below _ (T104.setTop (mkF m 7 #[.val (.int ch)] [(.int (ch.toInt8.toInt32)), (.int (0 : Int32)), (.ref b104), (.ref b104)]))
  obtain ⟨cl105, Ar105, q105, S105, N105, H105, G105⟩ := id V104
  have hi105 : ¬ ((0 : Int32) < 0 ∨ cl105.slots.size ≤ ((0 : Int32)).toNatClampNeg) := inb_of S105 ⟨by decide, by decide⟩
  obtain ⟨T106, h106, X106, e106, W106, st106⟩ := stB X104 hx hZ e104 Ar105 (j := (0 : Int32)) hi105 (g := (mkF m 7 #[.val (.int ch)] [(.int (ch.toInt8.toInt32)), (.int (0 : Int32)), (.ref b104), (.ref b104)])) rfl rfl (hb hby own_d_jdk_43_46_7)
  rw [own_bb] at W106
  have g107 : n0 ≤ b104 := Nat.le_trans (own_nl O0) (Nat.le_of_eq g104.symm)
  have N106 := Fr.snoc X106 N0 g107
  have V106 : Arv Z h106 b104 k104 .byte (1 : Int32) [(.int (ch.toInt8.toInt32))] (.int (0 : Int32)) := Arv.set Ar105 q105 S105 N105 H105 G105 (fits_nar_byte _) W106 0 rfl (Nat.le_of_ble_eq_true rfl)
  refine own_st (fun u_ k_ => st106 u_ k_) ?_
  show own_Go p e below _ (T106.setTop (mkF m 8 #[.val (.int ch)] [(.ref b104)]))
  have K108 : Keep h0 h104 [] := (Keep.refl h0 []).ext E104
  have z110 : h0.size ≤ b104 := Nat.le_trans (Nat.le_refl _) (Nat.le_of_eq g104.symm)
  have K109 : Keep h0 h106 [] := K108.wr W106 (Or.inr z110)
  have F111 := (Exa.wr W106 Y104)
  exact own_retX X106 hx hlk hret rfl (Or.inr (Or.inr (Or.inr (Or.inr ⟨rfl, rfl, rfl⟩)))) (hb hby own_d_jdk_43_46_8) (by decide) (by decide) (show QrmT1 Z wcs wd ch h0 n0 (some (.ref b104)) T106.heap _ from (by rw [e106]; exact ⟨b104, k104, rfl, N106, K109, z110, F111, V106⟩))
theorem own_d_jdk_42_151_0 : decode jdk_42_method_151_code 0 = .ok (.aload_n 0, 1) := by decide +kernel
theorem own_d_jdk_42_151_1 : decode jdk_42_method_151_code 1 = .ok (.invokespecial 1, 3) := by decide +kernel
theorem own_d_jdk_42_151_4 : decode jdk_42_method_151_code 4 = .ok (.aload_n 0, 1) := by decide +kernel
theorem own_d_jdk_42_151_5 : decode jdk_42_method_151_code 5 = .ok (.aload_n 1, 1) := by decide +kernel
theorem own_d_jdk_42_151_6 : decode jdk_42_method_151_code 6 = .ok (.putfield 9, 3) := by decide +kernel
theorem own_d_jdk_42_151_9 : decode jdk_42_method_151_code 9 = .ok (.aload_n 0, 1) := by decide +kernel
theorem own_d_jdk_42_151_10 : decode jdk_42_method_151_code 10 = .ok (.iload_n 2, 1) := by decide +kernel
theorem own_d_jdk_42_151_11 : decode jdk_42_method_151_code 11 = .ok (.putfield 15, 3) := by decide +kernel
theorem own_d_jdk_42_151_14 : decode jdk_42_method_151_code 14 = .ok (.return_, 1) := by decide +kernel
abbrev own_y_132 : MethodName := ⟨"java/lang/String", "<init>", "([BB)V"⟩
theorem own_ef_rmSI (m : MethodId) (a : Addr) (b : Addr)  : entryFrame m #[(.ref a), (.ref b), (.int (0 : Int32))] 3 = mkF m 0 #[.val (.ref a), .val (.ref b), .val (.int (0 : Int32))] [] := by first | (simp [entryFrame, mkF, argsToLocals, Value.category, maxLocals]; done) | rfl
def QrmSI (Z : State) (wcs : Int32) (wd : Addr) (a : Addr) (b : Addr) (h0 : Heap) (n0 : Nat) (v : Option Value) (h : Heap) (L : List Loc) : Prop := v = none ∧ Fr n0 L ∧ Keep h0 h [a] ∧ Exa Z h a "java/lang/String" ∧ Fld Z h a "java/lang/String" "value" "[B" (.ref b) ∧ Fld Z h a "java/lang/String" "coder" "B" (.int (0 : Int32))
set_option maxRecDepth 65536 in
set_option maxHeartbeats 40000000 in
theorem rmSI (l : Launch) (Z : State) (a0 : Array Value) (hw : own_H a0 Z) (ws : List Jvm.Cond) (wcs : Int32) (wd : Addr) (hS : own_S Z wcs wd) (a : Addr) (b : Addr) (h0 : Heap) (n0 : Nat) (O0 : Old Z n0 h0) (E : Exa Z h0 a "java/lang/String") (ga : n0 ≤ a) (F1 : Fld Z h0 a "java/lang/String" "value" "[B" .null) (F2 : Fld Z h0 a "java/lang/String" "coder" "B" (.int (0 : Int32))) :
    own_Met l own_y_132 jdk_42_method_151_code 3 none ws ({ frames := 1, cells := 0, slots := 0, locals := 12 } : Room) Z h0 #[(.ref a), (.ref b), (.int (0 : Int32))] (QrmSI Z wcs wd a b h0 n0) := by
  refine own_body (plainFor_of_name own_pn_84) ?_
  intro p e s m below meth c s₁ hx hby hml hown hnm hret hlk hZ e0 X0
  have N0 := Fr.nil n0
  refine own_st (fun u_ k_ => castTop (own_ef_rmSI m a b) k_) ?_
  show own_Go p e below _ (s₁.setTop (mkF m 0 #[.val (.ref a), .val (.ref b), .val (.int (0 : Int32))] []))
  refine own_st (fun u_ k_ => XS.aloadN X0.here hx rfl (hb hby own_d_jdk_42_151_0) rfl rfl k_) ?_
  obtain ⟨T112, X112, e112, st112⟩ := initO X0 hx hZ hown (own_w hw 15 rfl) (own_w hw 16 rfl) (own_w hw 17 rfl) e0 (g := (mkF m 1 #[.val (.ref a), .val (.ref b), .val (.int (0 : Int32))] [(.ref a)])) rfl (by rw [hml]; rfl) rfl (hb hby own_d_jdk_42_151_1) (by decide) (W := 0) (by show 2 * 0 + _ ≤ _; exact Nat.le_of_eq rfl) (by decide)
  refine own_st (fun u_ k_ => st112 u_ k_) ?_
  show own_Go p e below _ (T112.setTop (mkF m 4 #[.val (.ref a), .val (.ref b), .val (.int (0 : Int32))] []))
  refine own_st (fun u_ k_ => XS.aloadN X112.here hx rfl (hb hby own_d_jdk_42_151_4) rfl rfl k_) ?_
  refine own_st (fun u_ k_ => XS.aloadN X112.here hx rfl (hb hby own_d_jdk_42_151_5) rfl rfl k_) ?_
  show own_Go p e below _ (T112.setTop (mkF m 6 #[.val (.ref a), .val (.ref b), .val (.int (0 : Int32))] [(.ref b), (.ref a)]))
  obtain ⟨T113, h113, X113, e113, W113, st113⟩ := putF X112 hx hZ hown (host := "") (Or.inl (own_w hw 24 rfl)) Via.refl e112 F1 E (Or.inr ⟨(own_w hw 20 rfl), rfl, hnm⟩) (own_w hw 5 rfl) (ty := (.array .byte)) own_lm_78 rfl rfl (g := (mkF m 6 #[.val (.ref a), .val (.ref b), .val (.int (0 : Int32))] [(.ref b), (.ref a)])) rfl rfl (hb hby own_d_jdk_42_151_6)
  have N113 := Fr.snoc X113 N0 ga
  have F114 : Fld Z h113 a "java/lang/String" "value" "[B" (.ref b) := Fld.same W113 F1
  refine own_st (fun u_ k_ => st113 u_ k_) ?_
  show own_Go p e below _ (T113.setTop (mkF m 9 #[.val (.ref a), .val (.ref b), .val (.int (0 : Int32))] []))
  refine own_st (fun u_ k_ => XS.aloadN X113.here hx rfl (hb hby own_d_jdk_42_151_9) rfl rfl k_) ?_
  refine own_st (fun u_ k_ => XS.iloadN X113.here hx rfl (hb hby own_d_jdk_42_151_10) rfl k_) ?_
  show own_Go p e below _ (T113.setTop (mkF m 11 #[.val (.ref a), .val (.ref b), .val (.int (0 : Int32))] [(.int (0 : Int32)), (.ref a)]))
  have F115 := (Exa.wr W113 E)
  have F116 := (Fld.other W113 F2 (Or.inr (own_sn_82 hw)))
  obtain ⟨T117, h117, X117, e117, W117, st117⟩ := putF X113 hx hZ hown (host := "") (Or.inl (own_w hw 25 rfl)) Via.refl e113 F116 F115 (Or.inr ⟨(own_w hw 21 rfl), rfl, hnm⟩) (own_w hw 5 rfl) (ty := .byte) own_lm_73 rfl rfl (g := (mkF m 11 #[.val (.ref a), .val (.ref b), .val (.int (0 : Int32))] [(.int (0 : Int32)), (.ref a)])) rfl rfl (hb hby own_d_jdk_42_151_11)
  have N117 := Fr.snoc X117 N113 ga
  have F118 : Fld Z h117 a "java/lang/String" "coder" "B" (.int (0 : Int32)) := Fld.same W117 F116
  refine own_st (fun u_ k_ => st117 u_ k_) ?_
  show own_Go p e below _ (T117.setTop (mkF m 14 #[.val (.ref a), .val (.ref b), .val (.int (0 : Int32))] []))
  have K119 : Keep h0 h113 [a] := (Keep.refl h0 [a]).wr W113 (Or.inl (List.mem_of_getElem? (i := 0) rfl))
  have K120 : Keep h0 h117 [a] := K119.wr W117 (Or.inl (List.mem_of_getElem? (i := 0) rfl))
  have F121 := (Exa.wr W117 F115)
  have F122 := (Fld.other W117 F114 (Or.inr (own_sn_79 hw)))
  exact own_retV X117 hx hlk hret (hb hby own_d_jdk_42_151_14) (by decide) (by decide) (show QrmSI Z wcs wd a b h0 n0 none T117.heap _ from (by rw [e117]; exact ⟨rfl, N117, K120, F121, F122, F118⟩))
theorem own_d_jdk_42_139_0 : decode jdk_42_method_139_code 0 = .ok (.getstatic 38, 3) := by decide +kernel
theorem own_d_jdk_42_139_3 : decode jdk_42_method_139_code 3 = .ok (.ifCond .eq 23, 3) := by decide +kernel
theorem own_d_jdk_42_139_6 : decode jdk_42_method_139_code 6 = .ok (.iload_n 0, 1) := by decide +kernel
theorem own_d_jdk_42_139_7 : decode jdk_42_method_139_code 7 = .ok (.invokestatic 1015, 3) := by decide +kernel
theorem own_lm_137 : ("java/lang/StringLatin1" : String) ≠ "java/lang/invoke/MethodHandle" ∧ ("java/lang/StringLatin1" : String) ≠ "java/lang/invoke/VarHandle" := by decide +kernel
theorem own_pd_138 : parseMethodDescriptor "(C)Z" = some ⟨[.char], some .boolean⟩ := by decide +kernel
theorem own_d_jdk_42_139_10 : decode jdk_42_method_139_code 10 = .ok (.ifCond .eq 16, 3) := by decide +kernel
theorem own_d_jdk_42_139_13 : decode jdk_42_method_139_code 13 = .ok (.new 10, 3) := by decide +kernel
theorem own_d_jdk_42_139_16 : decode jdk_42_method_139_code 16 = .ok (.dup, 1) := by decide +kernel
theorem own_d_jdk_42_139_17 : decode jdk_42_method_139_code 17 = .ok (.iload_n 0, 1) := by decide +kernel
theorem own_d_jdk_42_139_18 : decode jdk_42_method_139_code 18 = .ok (.invokestatic 1018, 3) := by decide +kernel
theorem own_pd_144 : parseMethodDescriptor "(C)[B" = some ⟨[.char], some (.array .byte)⟩ := by decide +kernel
theorem own_d_jdk_42_139_21 : decode jdk_42_method_139_code 21 = .ok (.iconst 0, 1) := by decide +kernel
theorem own_d_jdk_42_139_22 : decode jdk_42_method_139_code 22 = .ok (.invokespecial 209, 3) := by decide +kernel
theorem own_pd_147 : parseMethodDescriptor "([BB)V" = some ⟨[(.array .byte), .byte], none⟩ := by decide +kernel
theorem own_d_jdk_42_139_25 : decode jdk_42_method_139_code 25 = .ok (.areturn, 1) := by decide +kernel
abbrev own_y_149 : MethodName := ⟨"java/lang/String", "valueOf", "(C)Ljava/lang/String;"⟩
theorem own_ef_rmVO (m : MethodId) (ch : Int32)  : entryFrame m #[(.int ch)] 1 = mkF m 0 #[.val (.int ch)] [] := by first | (simp [entryFrame, mkF, argsToLocals, Value.category, maxLocals]; done) | rfl
def QrmVO (Z : State) (wcs : Int32) (wd : Addr) (ch : Int32) (h0 : Heap) (n0 : Nat) (v : Option Value) (h : Heap) (L : List Loc) : Prop := ∃ q : Addr, ∃ r : Addr, ∃ kr : ClassId, v = some (.ref q) ∧ Fr n0 L ∧ Keep h0 h [] ∧ h0.size ≤ q ∧ h0.size ≤ r ∧ Exa Z h q "java/lang/String" ∧ Fld Z h q "java/lang/String" "value" "[B" (.ref r) ∧ Fld Z h q "java/lang/String" "coder" "B" (.int (0 : Int32)) ∧ Exa Z h r "[B" ∧ Arv Z h r kr .byte (1 : Int32) [(.int (ch.toInt8.toInt32))] (.int (0 : Int32))
set_option maxRecDepth 65536 in
set_option maxHeartbeats 40000000 in
theorem rmVO (l : Launch) (Z : State) (a0 : Array Value) (hw : own_H a0 Z) (ws : List Jvm.Cond) (wcs : Int32) (wd : Addr) (hS : own_S Z wcs wd) (ch : Int32) (h0 : Heap) (n0 : Nat) (O0 : Old Z n0 h0) (hch : ¬ (255 : Int32) < ch) :
    own_Met l own_y_149 jdk_42_method_139_code 1 (some (.object "java/lang/String")) ws ({ frames := 2, cells := 2, slots := 5, locals := 27 } : Room) Z h0 #[(.int ch)] (QrmVO Z wcs wd ch h0 n0) := by
  refine own_body (plainFor_of_name own_pn_84) ?_
  intro p e s m below meth c s₁ hx hby hml hown hnm hret hlk hZ e0 X0
  have N0 := Fr.nil n0
  refine own_st (fun u_ k_ => castTop (own_ef_rmVO m ch) k_) ?_
  show own_Go p e below _ (s₁.setTop (mkF m 0 #[.val (.int ch)] []))
  have F123 := Sta.ext O0.2 hS.1
  obtain ⟨T124, X124, e124, st124⟩ := getS2 X0 hx hZ hown (host := "") (Or.inl (own_w hw 77 rfl)) Via.refl e0 F123 (g := (mkF m 0 #[.val (.int ch)] [])) rfl (hb hby own_d_jdk_42_139_0)
  refine own_st (fun u_ k_ => st124 u_ k_) ?_
  show own_Go p e below _ (T124.setTop (mkF m 3 #[.val (.int ch)] [(.int wcs)]))
  refine own_st (fun u_ k_ => XS.ifNo X124.here hx rfl (hb hby own_d_jdk_42_139_3) rfl (XT.i0_eq_f hS.2.1) k_) ?_
  refine own_st (fun u_ k_ => XS.iloadN X124.here hx rfl (hb hby own_d_jdk_42_139_6) rfl k_) ?_
  show own_Go p e below _ (T124.setTop (mkF m 7 #[.val (.int ch)] [(.int ch)]))
  obtain ⟨T125, v125, L125, X125, hQ125, st125⟩ := own_callS X124 hx hZ (y := own_y_112) hown (own_w hw 91 rfl) (own_w hw 92 rfl) (own_w hw 93 rfl) (own_w hw 94 rfl) own_lm_137 (rmCE l Z a0 hw [] wcs wd hS ch h0 n0 O0 (by assumption)) e124 own_pd_138 (argsL := [(.int ch)]) (rest := []) rfl rfl (g := (mkF m 7 #[.val (.int ch)] [(.int ch)])) rfl (by rw [hml]; rfl) rfl (hb hby own_d_jdk_42_139_7) (W := 0) rfl (by decide) (by decide) (by decide) (by decide)
  obtain ⟨rfl, M125, e125⟩ := hQ125
  have N125 := Fr.app N0 M125
  refine own_st (fun u_ k_ => st125 u_ k_) ?_
  show own_Go p e below _ (T125.setTop (mkF m 10 #[.val (.int ch)] [(.int (1 : Int32))]))
  refine own_st (fun u_ k_ => XS.ifNo X125.here hx rfl (hb hby own_d_jdk_42_139_10) rfl (XT.i0_eq_f (by decide)) k_) ?_
  obtain ⟨T126, h126, X126, e126, E126, A126, D126, U126, st126⟩ := newO X125 hx hZ hown (own_w hw 95 rfl) (own_w hw 5 rfl) (own_w hw 6 rfl) e125 (g := (mkF m 13 #[.val (.int ch)] [])) rfl (hb hby own_d_jdk_42_139_13) (by decide) (by decide)
  obtain ⟨b126, g126⟩ : ∃ z, z = h0.size := ⟨_, rfl⟩
  rw [← g126] at A126 D126 U126 st126
  have F126_value : Fld Z h126 b126 "java/lang/String" "value" "[B" .null := D126 (Or.inr (own_w hw 20 rfl)) (ty := (.array .byte)) own_lm_78
  have F126_coder : Fld Z h126 b126 "java/lang/String" "coder" "B" (.int (0 : Int32)) := D126 (Or.inr (own_w hw 21 rfl)) (ty := .byte) own_lm_73
  refine own_st (fun u_ k_ => st126 u_ k_) ?_
  show own_Go p e below _ (T126.setTop (mkF m 16 #[.val (.int ch)] [(.ref b126)]))
  refine own_st (fun u_ k_ => XS.dup X126.here hx rfl (hb hby own_d_jdk_42_139_16) rfl rfl k_) ?_
  refine own_st (fun u_ k_ => XS.iloadN X126.here hx rfl (hb hby own_d_jdk_42_139_17) rfl k_) ?_
  show own_Go p e below _ (T126.setTop (mkF m 18 #[.val (.int ch)] [(.int ch), (.ref b126), (.ref b126)]))
  have O128 : Old Z n0 h126 := O0.ext E126
  obtain ⟨T127, v127, L127, X127, hQ127, st127⟩ := own_callS X126 hx hZ (y := own_y_122) hown (own_w hw 96 rfl) (own_w hw 97 rfl) (own_w hw 93 rfl) (own_w hw 98 rfl) own_lm_137 (rmT1 l Z a0 hw [] wcs wd hS ch h126 n0 O128 ) e126 own_pd_144 (argsL := [(.int ch)]) (rest := [(.ref b126), (.ref b126)]) rfl rfl (g := (mkF m 18 #[.val (.int ch)] [(.int ch), (.ref b126), (.ref b126)])) rfl (by rw [hml]; rfl) rfl (hb hby own_d_jdk_42_139_18) (W := 2) rfl (by decide) (by decide) (by decide) (by decide)
  obtain ⟨r_129, kr_130, rfl, M127, K127, z131, F132, F133⟩ := hQ127
  have N127 := Fr.app N125 M127
  refine own_st (fun u_ k_ => st127 u_ k_) ?_
  show own_Go p e below _ (T127.setTop (mkF m 21 #[.val (.int ch)] [(.ref r_129), (.ref b126), (.ref b126)]))
  refine own_st (fun u_ k_ => XS.iconst X127.here hx rfl (hb hby own_d_jdk_42_139_21) k_) ?_
  have F134 := (A126.keep K127)
  have g135 : n0 ≤ b126 := Nat.le_trans (own_nl O0) (Nat.le_of_eq g126.symm)
  have F136 := (F126_value.keep K127 nin0)
  have F137 := (F126_coder.keep K127 nin0)
  have O139 : Old Z n0 T127.heap := O128.keep K127 all0
  obtain ⟨T138, v138, L138, X138, hQ138, st138⟩ := own_callN X127 hx hZ (y := own_y_132) rfl hown (own_w hw 99 rfl) (own_w hw 100 rfl) (own_w hw 6 rfl) (own_w hw 101 rfl) own_lm_92 (rmSI l Z a0 hw [] wcs wd hS b126 r_129 T127.heap n0 O139 F134 g135 F136 F137) rfl own_pd_147 (a := b126) (argsL := [(.ref r_129), (.int (0 : Int32))]) (rest := [(.ref b126)]) rfl rfl (g := (mkF m 22 #[.val (.int ch)] [(.int (0 : Int32)), (.ref r_129), (.ref b126), (.ref b126)])) rfl (by rw [hml]; rfl) rfl (hb hby own_d_jdk_42_139_22) (W := 1) rfl (by decide) (by decide) (by decide) (by decide)
  obtain ⟨rfl, M138, K138, F140, F141, F142⟩ := hQ138
  have N138 := Fr.app N127 M138
  refine own_st (fun u_ k_ => st138 u_ k_) ?_
  show own_Go p e below _ (T138.setTop (mkF m 25 #[.val (.int ch)] [(.ref b126)]))
  have K143 : Keep h0 h126 [] := (Keep.refl h0 []).ext E126
  have K144 : Keep h0 T127.heap [] := K143.trans K127 all0
  have z146 : h0.size ≤ b126 := Nat.le_trans (Nat.le_refl _) (Nat.le_of_eq g126.symm)
  have K145 : Keep h0 T138.heap [] := K144.trans K138 (allS (Or.inr z146) all0)
  have z147 : h0.size ≤ r_129 := Nat.le_trans E126.1 z131
  have F148 := (F132.keep K138)
  have ne149 : r_129 ≠ b126 := (Ne.symm (Nat.ne_of_lt (Nat.lt_of_lt_of_le A126.lt z131)))
  have F150 := (F133.keep K138 (ninS ne149 nin0))
  exact own_retX X138 hx hlk hret rfl (Or.inr (Or.inr (Or.inr (Or.inr ⟨rfl, rfl, rfl⟩)))) (hb hby own_d_jdk_42_139_25) (by decide) (by decide) (show QrmVO Z wcs wd ch h0 n0 (some (.ref b126)) T138.heap _ from (by exact ⟨b126, r_129, kr_130, rfl, N138, K145, z146, z147, F140, F141, F142, F148, F150⟩))
theorem own_d_method_3_0 : decode method_3_code 0 = .ok (.iload_n 0, 1) := by decide +kernel
theorem own_d_method_3_1 : decode method_3_code 1 = .ok (.iconst 3, 1) := by decide +kernel
theorem own_d_method_3_2 : decode method_3_code 2 = .ok (.iand, 1) := by decide +kernel
theorem own_d_method_3_3 : decode method_3_code 3 = .ok (.istore_n 3, 1) := by decide +kernel
theorem own_d_method_3_4 : decode method_3_code 4 = .ok (.iload_n 3, 1) := by decide +kernel
theorem own_d_method_3_5 : decode method_3_code 5 = .ok (.ifCond .ne 14, 3) := by decide +kernel
theorem own_d_method_3_8 : decode method_3_code 8 = .ok (.new 25, 3) := by decide +kernel
theorem own_d_method_3_11 : decode method_3_code 11 = .ok (.dup, 1) := by decide +kernel
theorem own_d_method_3_12 : decode method_3_code 12 = .ok (.iconst 0, 1) := by decide +kernel
theorem own_d_method_3_13 : decode method_3_code 13 = .ok (.newarray .char, 2) := by decide +kernel
theorem own_lm_160 : "[" ++ (newarray.typeOf .char).toString = "[C" := by decide +kernel
theorem own_d_method_3_15 : decode method_3_code 15 = .ok (.invokespecial 27, 3) := by decide +kernel
theorem own_pd_162 : parseMethodDescriptor "([C)V" = some ⟨[(.array .char)], none⟩ := by decide +kernel
theorem own_d_method_3_18 : decode method_3_code 18 = .ok (.areturn, 1) := by decide +kernel
theorem own_d_method_3_19 : decode method_3_code 19 = .ok (.iload_n 3, 1) := by decide +kernel
theorem own_d_method_3_20 : decode method_3_code 20 = .ok (.iconst 1, 1) := by decide +kernel
theorem own_d_method_3_21 : decode method_3_code 21 = .ok (.if_icmp .ne 8, 3) := by decide +kernel
theorem own_d_method_3_24 : decode method_3_code 24 = .ok (.iload_n 1, 1) := by decide +kernel
theorem own_d_method_3_25 : decode method_3_code 25 = .ok (.invokestatic 30, 3) := by decide +kernel
theorem own_pd_169 : parseMethodDescriptor "(C)Ljava/lang/String;" = some ⟨[.char], some (.object "java/lang/String")⟩ := by decide +kernel
theorem own_d_method_3_28 : decode method_3_code 28 = .ok (.areturn, 1) := by decide +kernel
theorem own_d_method_3_29 : decode method_3_code 29 = .ok (.iconst 2, 1) := by decide +kernel
theorem own_d_method_3_30 : decode method_3_code 30 = .ok (.newarray .char, 2) := by decide +kernel
theorem own_d_method_3_32 : decode method_3_code 32 = .ok (.astore 4, 2) := by decide +kernel
theorem own_d_method_3_34 : decode method_3_code 34 = .ok (.aload 4, 2) := by decide +kernel
theorem own_d_method_3_36 : decode method_3_code 36 = .ok (.iconst 0, 1) := by decide +kernel
theorem own_d_method_3_37 : decode method_3_code 37 = .ok (.iload_n 1, 1) := by decide +kernel
theorem own_d_method_3_38 : decode method_3_code 38 = .ok (.castore, 1) := by decide +kernel
theorem own_d_method_3_39 : decode method_3_code 39 = .ok (.aload 4, 2) := by decide +kernel
theorem own_d_method_3_41 : decode method_3_code 41 = .ok (.iconst 1, 1) := by decide +kernel
theorem own_d_method_3_42 : decode method_3_code 42 = .ok (.iload_n 2, 1) := by decide +kernel
theorem own_d_method_3_43 : decode method_3_code 43 = .ok (.castore, 1) := by decide +kernel
theorem own_d_method_3_44 : decode method_3_code 44 = .ok (.new 25, 3) := by decide +kernel
theorem own_d_method_3_47 : decode method_3_code 47 = .ok (.dup, 1) := by decide +kernel
theorem own_d_method_3_48 : decode method_3_code 48 = .ok (.aload 4, 2) := by decide +kernel
theorem own_d_method_3_50 : decode method_3_code 50 = .ok (.invokespecial 27, 3) := by decide +kernel
theorem own_d_method_3_53 : decode method_3_code 53 = .ok (.areturn, 1) := by decide +kernel
theorem own_lm_187 : ("[C" : String) ≠ "java/lang/String" := by decide +kernel
abbrev own_y_188 : MethodName := ⟨"com/example/spulenwerk/spulenwerk/delivery/DeliveredLineIsRefusedPinLaw", "str", "(ICC)Ljava/lang/String;"⟩
theorem own_pn_189 : plainName "com/example/spulenwerk/spulenwerk/delivery/DeliveredLineIsRefusedPinLaw" = true := by first | (simp [plainName, overriddenIn]; done) | decide +kernel
theorem own_ef_rmStr (m : MethodId) (k : Int32) (ca : Int32) (cb : Int32)  : entryFrame m #[(.int k), (.int ca), (.int cb)] 5 = mkF m 0 #[.val (.int k), .val (.int ca), .val (.int cb), .unset, .unset] [] := by first | (simp [entryFrame, mkF, argsToLocals, Value.category, maxLocals]; done) | rfl
def QrmStr (Z : State) (wcs : Int32) (wd : Addr) (k : Int32) (ca : Int32) (cb : Int32) (h0 : Heap) (n0 : Nat) (v : Option Value) (h : Heap) (L : List Loc) : Prop := ∃ r : Addr, v = some (.ref r) ∧ Fr n0 L ∧ Keep h0 h [] ∧ Exa Z h r "java/lang/String"
set_option maxRecDepth 65536 in
set_option maxHeartbeats 40000000 in
theorem rmStr (l : Launch) (Z : State) (a0 : Array Value) (hw : own_H a0 Z) (ws : List Jvm.Cond) (wcs : Int32) (wd : Addr) (hS : own_S Z wcs wd) (k : Int32) (ca : Int32) (cb : Int32) (h0 : Heap) (n0 : Nat) (O0 : Old Z n0 h0) (qa : ¬ (255 : Int32) < ca) (na : ¬ (255 : Int32) < nar .char ca) (nb : ¬ (255 : Int32) < nar .char cb) :
    own_MetH own_EL [] l own_y_188 method_3_code 5 (some (.object "java/lang/String")) ws ({ frames := 4, cells := 6, slots := 12, locals := 66 } : Room) Z h0 #[(.int k), (.int ca), (.int cb)] (QrmStr Z wcs wd k ca cb h0 n0) := by
  refine own_bodyH (plainFor_of_name own_pn_189) ?_
  intro p e s m below meth c s₁ hx hby hml hown hnm hret hlk hZ e0 X0 hSi0 hs0 hC0 hsf0
  have hZ_0 := hZ
  have R0 : CHr Z own_EL s.vm h0 s.vm h0 := CHr.refl hC0
  have N0 := Fr.nil n0
  refine own_st (fun u_ k_ => castTop (own_ef_rmStr m k ca cb) k_) ?_
  show own_Go p e below _ (s₁.setTop (mkF m 0 #[.val (.int k), .val (.int ca), .val (.int cb), .unset, .unset] []))
  refine own_st (fun u_ k_ => XS.iloadN X0.here hx rfl (hb hby own_d_method_3_0) rfl k_) ?_
  refine own_st (fun u_ k_ => XS.iconst X0.here hx rfl (hb hby own_d_method_3_1) k_) ?_
  show own_Go p e below _ (s₁.setTop (mkF m 2 #[.val (.int k), .val (.int ca), .val (.int cb), .unset, .unset] [(.int (3 : Int32)), (.int k)]))
  refine own_st (fun u_ k_ => XS.iand X0.here hx rfl (hb hby own_d_method_3_2) rfl k_) ?_
  refine own_st (fun u_ k_ => XS.istoreN X0.here hx rfl (hb hby own_d_method_3_3) rfl (l' := #[.val (.int k), .val (.int ca), .val (.int cb), .val (.int (k &&& (3 : Int32))), .unset]) rfl k_) ?_
  show own_Go p e below _ (s₁.setTop (mkF m 4 #[.val (.int k), .val (.int ca), .val (.int cb), .val (.int (k &&& (3 : Int32))), .unset] []))
  refine own_st (fun u_ k_ => XS.iloadN X0.here hx rfl (hb hby own_d_method_3_4) rfl k_) ?_
  by_cases hc151 : (k &&& (3 : Int32)) = (0 : Int32)
  · refine own_st (fun u_ k_ => XS.ifNo X0.here hx rfl (hb hby own_d_method_3_5) rfl (XT.i0_ne_f hc151) k_) ?_
    show own_Go p e below _ (s₁.setTop (mkF m 8 #[.val (.int k), .val (.int ca), .val (.int cb), .val (.int (k &&& (3 : Int32))), .unset] []))
    obtain ⟨T152, h152, X152, e152, E152, A152, D152, U152, st152⟩ := newO X0 hx hZ hown (own_w hw 4 rfl) (own_w hw 5 rfl) (own_w hw 6 rfl) e0 (g := (mkF m 8 #[.val (.int k), .val (.int ca), .val (.int cb), .val (.int (k &&& (3 : Int32))), .unset] [])) rfl (hb hby own_d_method_3_8) (by decide) (by decide)
    obtain ⟨b152, g152⟩ : ∃ z, z = h0.size := ⟨_, rfl⟩
    rw [← g152] at A152 D152 U152 st152
    have F152_value : Fld Z h152 b152 "java/lang/String" "value" "[B" .null := D152 (Or.inr (own_w hw 20 rfl)) (ty := (.array .byte)) own_lm_78
    have F152_coder : Fld Z h152 b152 "java/lang/String" "coder" "B" (.int (0 : Int32)) := D152 (Or.inr (own_w hw 21 rfl)) (ty := .byte) own_lm_73
    refine own_st (fun u_ k_ => st152 u_ k_) ?_
    show own_Go p e below _ (T152.setTop (mkF m 11 #[.val (.int k), .val (.int ca), .val (.int cb), .val (.int (k &&& (3 : Int32))), .unset] [(.ref b152)]))
    refine own_st (fun u_ k_ => XS.dup X152.here hx rfl (hb hby own_d_method_3_11) rfl rfl k_) ?_
    refine own_st (fun u_ k_ => XS.iconst X152.here hx rfl (hb hby own_d_method_3_12) k_) ?_
    show own_Go p e below _ (T152.setTop (mkF m 13 #[.val (.int k), .val (.int ca), .val (.int cb), .val (.int (k &&& (3 : Int32))), .unset] [(.int (0 : Int32)), (.ref b152), (.ref b152)]))
    obtain ⟨T153, h153, k153, X153, e153, E153, A153, Y153, st153⟩ := newPE X152 hx hZ (own_w hw 7 rfl) e152 (g := (mkF m 13 #[.val (.int k), .val (.int ca), .val (.int cb), .val (.int (k &&& (3 : Int32))), .unset] [(.int (0 : Int32)), (.ref b152), (.ref b152)])) rfl (hb hby own_d_method_3_13) rfl (by decide) (cap := 0) (by decide) (by decide) (by decide) (by decide) (ad := "[C") own_lm_160
    obtain ⟨b153, g153⟩ : ∃ z, z = h152.size := ⟨_, rfl⟩
    rw [← g153] at A153 Y153 st153
    have V153 : Arv Z h153 b153 k153 .char (0 : Int32) [] (.int (0 : Int32)) := (Arv.new A153 (by decide)).pad (pad_rep [] (.int (0 : Int32)) 0)
    refine own_st (fun u_ k_ => st153 u_ k_) ?_
    show own_Go p e below _ (T153.setTop (mkF m 15 #[.val (.int k), .val (.int ca), .val (.int cb), .val (.int (k &&& (3 : Int32))), .unset] [(.ref b153), (.ref b152), (.ref b152)]))
    have F154 := (Exa.ext E153 A152)
    have g155 : n0 ≤ b152 := Nat.le_trans (own_nl O0) (Nat.le_of_eq g152.symm)
    have F156 := (Fld.ext E153 F152_value)
    have F157 := (Fld.ext E153 F152_coder)
    have O159 : Old Z n0 h152 := O0.ext E152
    have O160 : Old Z n0 h153 := O159.ext E153
    have sf_161 : Safe Z own_EL s.vm h0 b152 := Safe.new (Nat.le_of_eq g152.symm)
    have sf_162 : Safe Z own_EL s.vm h152 b152 := Safe.ext E152 R0.1 sf_161
    have R163 : CHr Z own_EL s.vm h0 s.vm h152 := R0.trans (CHr.ext E152 R0.1)
    have sf_164 : Safe Z own_EL s.vm h153 b152 := Safe.ext E153 R163.1 sf_162
    have R165 : CHr Z own_EL s.vm h0 s.vm h153 := R163.trans (CHr.ext E153 R163.1)
    obtain ⟨T158, v158, L158, X158, Si158, hZ158, hown158, hQ158, hr158, st158⟩ := own_callNH X153 hx hZ hSi0 (Nat.le_trans (Nat.zero_le _) (Nat.le_trans E152.1 E153.1)) (own_hEL hw) R165.1 (own_sfS F154.lt sf_164 own_sf0) (y := own_y_95) rfl hown (own_w hw 8 rfl) (own_w hw 9 rfl) (own_w hw 6 rfl) (own_w hw 10 rfl) own_lm_92 (rmS1_0 l Z a0 hw [] wcs wd hS b152 b153 k153 h153 n0 O160 F154 Y153 g155 F156 F157 V153) e153 own_pd_162 (a := b152) (argsL := [(.ref b153)]) (rest := [(.ref b152)]) rfl rfl (g := (mkF m 15 #[.val (.int k), .val (.int ca), .val (.int cb), .val (.int (k &&& (3 : Int32))), .unset] [(.ref b153), (.ref b152), (.ref b152)])) rfl (by rw [hml]; rfl) rfl (hb hby own_d_method_3_15) (W := 1) rfl (by decide) (by decide) (by decide) (by decide)
    obtain ⟨r_166, kr_167, rfl, M158, K158, F168, F169, F170, F171⟩ := hQ158
    have N158 := Fr.app N0 M158
    refine own_st (fun u_ k_ => st158 u_ k_) ?_
    show own_Go p e below _ (T158.setTop (mkF m 18 #[.val (.int k), .val (.int ca), .val (.int cb), .val (.int (k &&& (3 : Int32))), .unset] [(.ref b152)]))
    have K172 : Keep h0 h152 [] := (Keep.refl h0 []).ext E152
    have K173 : Keep h0 h153 [] := K172.ext E153
    have z175 : h0.size ≤ b152 := Nat.le_trans (Nat.le_refl _) (Nat.le_of_eq g152.symm)
    have K174 : Keep h0 T158.heap [] := K173.trans K158 (allS (Or.inr z175) all0)
    have R176 : CHr Z own_EL s.vm h0 T158.vm T158.heap := R165.trans hr158
    exact own_retXH X158 Si158 (Nat.le_refl _) rfl hZ158 (own_hEL hw) hs0 R176 hx hlk hret rfl (Or.inr (Or.inr (Or.inr (Or.inr ⟨rfl, rfl, rfl⟩)))) (hb hby own_d_method_3_18) (by decide) (by decide) (show QrmStr Z wcs wd k ca cb h0 n0 (some (.ref b152)) T158.heap _ from (by exact ⟨b152, rfl, N158, K174, F168⟩))
  · refine own_st (fun u_ k_ => XS.ifYes X0.here hx rfl (pc0 := 5) (pc' := 19) rfl (hb hby own_d_method_3_5) rfl (XT.i0_ne_t hc151) (by decide) (by decide) k_) ?_
    show own_Go p e below _ (s₁.setTop (mkF m 19 #[.val (.int k), .val (.int ca), .val (.int cb), .val (.int (k &&& (3 : Int32))), .unset] []))
    refine own_st (fun u_ k_ => XS.iloadN X0.here hx rfl (hb hby own_d_method_3_19) rfl k_) ?_
    refine own_st (fun u_ k_ => XS.iconst X0.here hx rfl (hb hby own_d_method_3_20) k_) ?_
    show own_Go p e below _ (s₁.setTop (mkF m 21 #[.val (.int k), .val (.int ca), .val (.int cb), .val (.int (k &&& (3 : Int32))), .unset] [(.int (1 : Int32)), (.int (k &&& (3 : Int32)))]))
    by_cases hc177 : (k &&& (3 : Int32)) = (1 : Int32)
    · refine own_st (fun u_ k_ => XS.icmpNo X0.here hx rfl (hb hby own_d_method_3_21) rfl (XT.ii_ne_f hc177) k_) ?_
      refine own_st (fun u_ k_ => XS.iloadN X0.here hx rfl (hb hby own_d_method_3_24) rfl k_) ?_
      show own_Go p e below _ (s₁.setTop (mkF m 25 #[.val (.int k), .val (.int ca), .val (.int cb), .val (.int (k &&& (3 : Int32))), .unset] [(.int ca)]))
      obtain ⟨T178, v178, L178, X178, hQ178, st178⟩ := own_callS X0 hx hZ (y := own_y_149) hown (own_w hw 88 rfl) (own_w hw 89 rfl) (own_w hw 6 rfl) (own_w hw 90 rfl) own_lm_92 (rmVO l Z a0 hw [] wcs wd hS ca h0 n0 O0 qa) e0 own_pd_169 (argsL := [(.int ca)]) (rest := []) rfl rfl (g := (mkF m 25 #[.val (.int k), .val (.int ca), .val (.int cb), .val (.int (k &&& (3 : Int32))), .unset] [(.int ca)])) rfl (by rw [hml]; rfl) rfl (hb hby own_d_method_3_25) (W := 0) rfl (by decide) (by decide) (by decide) (by decide)
      obtain ⟨q_179, r_180, kr_181, rfl, M178, K178, z182, z183, F184, F185, F186, F187, F188⟩ := hQ178
      have N178 := Fr.app N0 M178
      refine own_st (fun u_ k_ => st178 u_ k_) ?_
      show own_Go p e below _ (T178.setTop (mkF m 28 #[.val (.int k), .val (.int ca), .val (.int cb), .val (.int (k &&& (3 : Int32))), .unset] [(.ref q_179)]))
      have K189 : Keep h0 T178.heap [] := (Keep.refl h0 []).trans K178 all0
      have R190 : CHr Z own_EL s.vm h0 s.vm T178.heap := R0.trans (CHr.keep K178 sf0 R0.1)
      exact own_retXH X178 hSi0 (Nat.le_trans (Nat.zero_le _) K178.1) rfl hZ (own_hEL hw) hs0 R190 hx hlk hret rfl (Or.inr (Or.inr (Or.inr (Or.inr ⟨rfl, rfl, rfl⟩)))) (hb hby own_d_method_3_28) (by decide) (by decide) (show QrmStr Z wcs wd k ca cb h0 n0 (some (.ref q_179)) T178.heap _ from (by exact ⟨q_179, rfl, N178, K189, F184⟩))
    · refine own_st (fun u_ k_ => XS.icmpYes X0.here hx rfl (pc0 := 21) (pc' := 29) rfl (hb hby own_d_method_3_21) rfl (XT.ii_ne_t hc177) (by decide) (by decide) k_) ?_
      refine own_st (fun u_ k_ => XS.iconst X0.here hx rfl (hb hby own_d_method_3_29) k_) ?_
      show own_Go p e below _ (s₁.setTop (mkF m 30 #[.val (.int k), .val (.int ca), .val (.int cb), .val (.int (k &&& (3 : Int32))), .unset] [(.int (2 : Int32))]))
      obtain ⟨T191, h191, k191, X191, e191, E191, A191, Y191, st191⟩ := newPE X0 hx hZ (own_w hw 7 rfl) e0 (g := (mkF m 30 #[.val (.int k), .val (.int ca), .val (.int cb), .val (.int (k &&& (3 : Int32))), .unset] [(.int (2 : Int32))])) rfl (hb hby own_d_method_3_30) rfl (by decide) (cap := 2) (by decide) (by decide) (by decide) (by decide) (ad := "[C") own_lm_160
      obtain ⟨b191, g191⟩ : ∃ z, z = h0.size := ⟨_, rfl⟩
      rw [← g191] at A191 Y191 st191
      have V191 : Arv Z h191 b191 k191 .char (2 : Int32) [(.int (0 : Int32)), (.int (0 : Int32))] (.int (0 : Int32)) := (Arv.new A191 (by decide)).pad (pad_rep [] (.int (0 : Int32)) 2)
      refine own_st (fun u_ k_ => st191 u_ k_) ?_
      show own_Go p e below _ (T191.setTop (mkF m 32 #[.val (.int k), .val (.int ca), .val (.int cb), .val (.int (k &&& (3 : Int32))), .unset] [(.ref b191)]))
      refine own_st (fun u_ k_ => XS.astore X191.here hx rfl (hb hby own_d_method_3_32) rfl rfl (l' := #[.val (.int k), .val (.int ca), .val (.int cb), .val (.int (k &&& (3 : Int32))), .val (.ref b191)]) rfl k_) ?_
      refine own_st (fun u_ k_ => XS.aload X191.here hx rfl (hb hby own_d_method_3_34) rfl rfl k_) ?_
      show own_Go p e below _ (T191.setTop (mkF m 36 #[.val (.int k), .val (.int ca), .val (.int cb), .val (.int (k &&& (3 : Int32))), .val (.ref b191)] [(.ref b191)]))
      refine own_st (fun u_ k_ => XS.iconst X191.here hx rfl (hb hby own_d_method_3_36) k_) ?_
      refine own_st (fun u_ k_ => XS.iloadN X191.here hx rfl (hb hby own_d_method_3_37) rfl k_) ?_
      show own_Go p e below _ (T191.setTop (mkF m 38 #[.val (.int k), .val (.int ca), .val (.int cb), .val (.int (k &&& (3 : Int32))), .val (.ref b191)] [(.int ca), (.int (0 : Int32)), (.ref b191)]))
      obtain ⟨cl192, Ar192, q192, S192, N192, H192, G192⟩ := id V191
      have hi192 : ¬ ((0 : Int32) < 0 ∨ cl192.slots.size ≤ ((0 : Int32)).toNatClampNeg) := inb_of S192 ⟨by decide, by decide⟩
      obtain ⟨T193, h193, X193, e193, W193, st193⟩ := stC X191 hx hZ e191 Ar192 (j := (0 : Int32)) hi192 (g := (mkF m 38 #[.val (.int k), .val (.int ca), .val (.int cb), .val (.int (k &&& (3 : Int32))), .val (.ref b191)] [(.int ca), (.int (0 : Int32)), (.ref b191)])) rfl rfl (hb hby own_d_method_3_38)
      have g194 : n0 ≤ b191 := Nat.le_trans (own_nl O0) (Nat.le_of_eq g191.symm)
      have N193 := Fr.snoc X193 N0 g194
      have V193 : Arv Z h193 b191 k191 .char (2 : Int32) [(.int (nar .char ca)), (.int (0 : Int32))] (.int (0 : Int32)) := Arv.set Ar192 q192 S192 N192 H192 G192 (fits_nar_char _) W193 0 rfl (Nat.le_of_ble_eq_true rfl)
      refine own_st (fun u_ k_ => st193 u_ k_) ?_
      show own_Go p e below _ (T193.setTop (mkF m 39 #[.val (.int k), .val (.int ca), .val (.int cb), .val (.int (k &&& (3 : Int32))), .val (.ref b191)] []))
      refine own_st (fun u_ k_ => XS.aload X193.here hx rfl (hb hby own_d_method_3_39) rfl rfl k_) ?_
      refine own_st (fun u_ k_ => XS.iconst X193.here hx rfl (hb hby own_d_method_3_41) k_) ?_
      show own_Go p e below _ (T193.setTop (mkF m 42 #[.val (.int k), .val (.int ca), .val (.int cb), .val (.int (k &&& (3 : Int32))), .val (.ref b191)] [(.int (1 : Int32)), (.ref b191)]))
      refine own_st (fun u_ k_ => XS.iloadN X193.here hx rfl (hb hby own_d_method_3_42) rfl k_) ?_
      obtain ⟨cl195, Ar195, q195, S195, N195, H195, G195⟩ := id V193
      have hi195 : ¬ ((1 : Int32) < 0 ∨ cl195.slots.size ≤ ((1 : Int32)).toNatClampNeg) := inb_of S195 ⟨by decide, by decide⟩
      obtain ⟨T196, h196, X196, e196, W196, st196⟩ := stC X193 hx hZ e193 Ar195 (j := (1 : Int32)) hi195 (g := (mkF m 43 #[.val (.int k), .val (.int ca), .val (.int cb), .val (.int (k &&& (3 : Int32))), .val (.ref b191)] [(.int cb), (.int (1 : Int32)), (.ref b191)])) rfl rfl (hb hby own_d_method_3_43)
      have N196 := Fr.snoc X196 N193 g194
      have V196 : Arv Z h196 b191 k191 .char (2 : Int32) [(.int (nar .char ca)), (.int (nar .char cb))] (.int (0 : Int32)) := Arv.set Ar195 q195 S195 N195 H195 G195 (fits_nar_char _) W196 1 rfl (Nat.le_of_ble_eq_true rfl)
      refine own_st (fun u_ k_ => st196 u_ k_) ?_
      show own_Go p e below _ (T196.setTop (mkF m 44 #[.val (.int k), .val (.int ca), .val (.int cb), .val (.int (k &&& (3 : Int32))), .val (.ref b191)] []))
      obtain ⟨T197, h197, X197, e197, E197, A197, D197, U197, st197⟩ := newO X196 hx hZ hown (own_w hw 4 rfl) (own_w hw 5 rfl) (own_w hw 6 rfl) e196 (g := (mkF m 44 #[.val (.int k), .val (.int ca), .val (.int cb), .val (.int (k &&& (3 : Int32))), .val (.ref b191)] [])) rfl (hb hby own_d_method_3_44) (by decide) (by decide)
      obtain ⟨b197, g197⟩ : ∃ z, z = h196.size := ⟨_, rfl⟩
      rw [← g197] at A197 D197 U197 st197
      have F197_value : Fld Z h197 b197 "java/lang/String" "value" "[B" .null := D197 (Or.inr (own_w hw 20 rfl)) (ty := (.array .byte)) own_lm_78
      have F197_coder : Fld Z h197 b197 "java/lang/String" "coder" "B" (.int (0 : Int32)) := D197 (Or.inr (own_w hw 21 rfl)) (ty := .byte) own_lm_73
      refine own_st (fun u_ k_ => st197 u_ k_) ?_
      show own_Go p e below _ (T197.setTop (mkF m 47 #[.val (.int k), .val (.int ca), .val (.int cb), .val (.int (k &&& (3 : Int32))), .val (.ref b191)] [(.ref b197)]))
      refine own_st (fun u_ k_ => XS.dup X197.here hx rfl (hb hby own_d_method_3_47) rfl rfl k_) ?_
      refine own_st (fun u_ k_ => XS.aload X197.here hx rfl (hb hby own_d_method_3_48) rfl rfl k_) ?_
      show own_Go p e below _ (T197.setTop (mkF m 50 #[.val (.int k), .val (.int ca), .val (.int cb), .val (.int (k &&& (3 : Int32))), .val (.ref b191)] [(.ref b191), (.ref b197), (.ref b197)]))
      have F198 := (Exa.ext E197 (Exa.wr W196 (Exa.wr W193 Y191)))
      have O200 : Old Z n0 h191 := O0.ext E191
      have O201 : Old Z n0 h193 := O200.wr W193 g194
      have O202 : Old Z n0 h196 := O201.wr W196 g194
      have g199 : n0 ≤ b197 := Nat.le_trans (own_nl O202) (Nat.le_of_eq g197.symm)
      have F203 := (V196.ext E197)
      have O205 : Old Z n0 h197 := O202.ext E197
      obtain ⟨T204, v204, L204, X204, hQ204, st204⟩ := own_callN X197 hx hZ (y := own_y_95) rfl hown (own_w hw 8 rfl) (own_w hw 9 rfl) (own_w hw 6 rfl) (own_w hw 10 rfl) own_lm_92 (rmS1_2_2 l Z a0 hw [] wcs wd hS b197 b191 k191 (nar .char ca) (nar .char cb) h197 n0 O205 A197 F198 g199 F197_value F197_coder F203 na nb) e197 own_pd_162 (a := b197) (argsL := [(.ref b191)]) (rest := [(.ref b197)]) rfl rfl (g := (mkF m 50 #[.val (.int k), .val (.int ca), .val (.int cb), .val (.int (k &&& (3 : Int32))), .val (.ref b191)] [(.ref b191), (.ref b197), (.ref b197)])) rfl (by rw [hml]; rfl) rfl (hb hby own_d_method_3_50) (W := 1) rfl (by decide) (by decide) (by decide) (by decide)
      obtain ⟨r_206, kr_207, rfl, M204, K204, z208, F209, F210, F211, F212, F213⟩ := hQ204
      have N204 := Fr.app N196 M204
      refine own_st (fun u_ k_ => st204 u_ k_) ?_
      show own_Go p e below _ (T204.setTop (mkF m 53 #[.val (.int k), .val (.int ca), .val (.int cb), .val (.int (k &&& (3 : Int32))), .val (.ref b191)] [(.ref b197)]))
      have K214 : Keep h0 h191 [] := (Keep.refl h0 []).ext E191
      have z216 : h0.size ≤ b191 := Nat.le_trans (Nat.le_refl _) (Nat.le_of_eq g191.symm)
      have K215 : Keep h0 h193 [] := K214.wr W193 (Or.inr z216)
      have K217 : Keep h0 h196 [] := K215.wr W196 (Or.inr z216)
      have K218 : Keep h0 h197 [] := K217.ext E197
      have z220 : h0.size ≤ b197 := Nat.le_trans (Nat.le_trans (Nat.le_trans E191.1 (Nat.le_of_eq W193.size.symm)) (Nat.le_of_eq W196.size.symm)) (Nat.le_of_eq g197.symm)
      have K219 : Keep h0 T204.heap [] := K218.trans K204 (allS (Or.inr z220) all0)
      have R221 : CHr Z own_EL s.vm h0 s.vm h191 := R0.trans (CHr.ext E191 R0.1)
      have sf_223 : Safe Z own_EL s.vm h191 b191 := Safe.exa hZ_0.alike Y191 own_lm_187 own_lm_21
      have R222 : CHr Z own_EL s.vm h0 s.vm h193 := R221.trans (CHr.wr W193 sf_223 R221.1)
      have F225 := (Exa.wr W193 Y191)
      have sf_226 : Safe Z own_EL s.vm h193 b191 := Safe.exa hZ_0.alike F225 own_lm_187 own_lm_21
      have R224 : CHr Z own_EL s.vm h0 s.vm h196 := R222.trans (CHr.wr W196 sf_226 R222.1)
      have R227 : CHr Z own_EL s.vm h0 s.vm h197 := R224.trans (CHr.ext E197 R224.1)
      have sf_229 : Safe Z own_EL s.vm h196 b197 := Safe.new (Nat.le_of_eq g197.symm)
      have sf_230 : Safe Z own_EL s.vm h197 b197 := Safe.ext E197 R224.1 sf_229
      have R228 : CHr Z own_EL s.vm h0 s.vm T204.heap := R227.trans (CHr.keep K204 (sfS sf_230 sf0) R227.1)
      exact own_retXH X204 hSi0 (Nat.le_trans (Nat.zero_le _) (Nat.le_trans (Nat.le_trans (Nat.le_trans (Nat.le_trans E191.1 (Nat.le_of_eq W193.size.symm)) (Nat.le_of_eq W196.size.symm)) E197.1) K204.1)) rfl hZ (own_hEL hw) hs0 R228 hx hlk hret rfl (Or.inr (Or.inr (Or.inr (Or.inr ⟨rfl, rfl, rfl⟩)))) (hb hby own_d_method_3_53) (by decide) (by decide) (show QrmStr Z wcs wd k ca cb h0 n0 (some (.ref b197)) T204.heap _ from (by exact ⟨b197, rfl, N204, K219, F209⟩))
theorem own_d_jdk_30_1_0 : decode jdk_30_method_1_code 0 = .ok (.aload_n 0, 1) := by decide +kernel
theorem own_d_jdk_30_1_1 : decode jdk_30_method_1_code 1 = .ok (.invokespecial 1, 3) := by decide +kernel
theorem own_d_jdk_30_1_4 : decode jdk_30_method_1_code 4 = .ok (.return_, 1) := by decide +kernel
abbrev own_y_193 : MethodName := ⟨"java/lang/Record", "<init>", "()V"⟩
theorem own_pn_194 : plainName "java/lang/Record" = true := by first | (simp [plainName, overriddenIn]; done) | decide +kernel
theorem own_ef_rmRec (m : MethodId) (a : Addr)  : entryFrame m #[(.ref a)] 1 = mkF m 0 #[.val (.ref a)] [] := by first | (simp [entryFrame, mkF, argsToLocals, Value.category, maxLocals]; done) | rfl
def QrmRec (Z : State) (wcs : Int32) (wd : Addr) (a : Addr) (h0 : Heap) (n0 : Nat) (v : Option Value) (h : Heap) (L : List Loc) : Prop := v = none ∧ Fr n0 L ∧ h = h0
set_option maxRecDepth 65536 in
set_option maxHeartbeats 40000000 in
theorem rmRec (l : Launch) (Z : State) (a0 : Array Value) (hw : own_H a0 Z) (ws : List Jvm.Cond) (wcs : Int32) (wd : Addr) (hS : own_S Z wcs wd) (a : Addr) (h0 : Heap) (n0 : Nat) (O0 : Old Z n0 h0)  :
    own_Met l own_y_193 jdk_30_method_1_code 1 none ws ({ frames := 1, cells := 0, slots := 0, locals := 12 } : Room) Z h0 #[(.ref a)] (QrmRec Z wcs wd a h0 n0) := by
  refine own_body (plainFor_of_name own_pn_194) ?_
  intro p e s m below meth c s₁ hx hby hml hown hnm hret hlk hZ e0 X0
  have N0 := Fr.nil n0
  refine own_st (fun u_ k_ => castTop (own_ef_rmRec m a) k_) ?_
  show own_Go p e below _ (s₁.setTop (mkF m 0 #[.val (.ref a)] []))
  refine own_st (fun u_ k_ => XS.aloadN X0.here hx rfl (hb hby own_d_jdk_30_1_0) rfl rfl k_) ?_
  obtain ⟨T231, X231, e231, st231⟩ := initO X0 hx hZ hown (own_w hw 61 rfl) (own_w hw 16 rfl) (own_w hw 17 rfl) e0 (g := (mkF m 1 #[.val (.ref a)] [(.ref a)])) rfl (by rw [hml]; rfl) rfl (hb hby own_d_jdk_30_1_1) (by decide) (W := 0) (by show 2 * 0 + _ ≤ _; exact Nat.le_of_eq rfl) (by decide)
  refine own_st (fun u_ k_ => st231 u_ k_) ?_
  show own_Go p e below _ (T231.setTop (mkF m 4 #[.val (.ref a)] []))
  exact own_retV X231 hx hlk hret (hb hby own_d_jdk_30_1_4) (by decide) (by decide) (show QrmRec Z wcs wd a h0 n0 none T231.heap _ from (by rw [e231]; exact ⟨rfl, N0, rfl⟩))
theorem own_d_jdk_22_1_0 : decode jdk_22_method_1_code 0 = .ok (.aload_n 0, 1) := by decide +kernel
theorem own_d_jdk_22_1_1 : decode jdk_22_method_1_code 1 = .ok (.invokespecial 1, 3) := by decide +kernel
theorem own_d_jdk_22_1_4 : decode jdk_22_method_1_code 4 = .ok (.return_, 1) := by decide +kernel
abbrev own_y_198 : MethodName := ⟨"java/util/AbstractCollection", "<init>", "()V"⟩
theorem own_pn_199 : plainName "java/util/AbstractCollection" = true := by first | (simp [plainName, overriddenIn]; done) | decide +kernel
theorem own_ef_rmAC (m : MethodId) (a : Addr)  : entryFrame m #[(.ref a)] 1 = mkF m 0 #[.val (.ref a)] [] := by first | (simp [entryFrame, mkF, argsToLocals, Value.category, maxLocals]; done) | rfl
def QrmAC (Z : State) (wcs : Int32) (wd : Addr) (a : Addr) (h0 : Heap) (n0 : Nat) (v : Option Value) (h : Heap) (L : List Loc) : Prop := v = none ∧ Fr n0 L ∧ h = h0
set_option maxRecDepth 65536 in
set_option maxHeartbeats 40000000 in
theorem rmAC (l : Launch) (Z : State) (a0 : Array Value) (hw : own_H a0 Z) (ws : List Jvm.Cond) (wcs : Int32) (wd : Addr) (hS : own_S Z wcs wd) (a : Addr) (h0 : Heap) (n0 : Nat) (O0 : Old Z n0 h0)  :
    own_Met l own_y_198 jdk_22_method_1_code 1 none ws ({ frames := 1, cells := 0, slots := 0, locals := 12 } : Room) Z h0 #[(.ref a)] (QrmAC Z wcs wd a h0 n0) := by
  refine own_body (plainFor_of_name own_pn_199) ?_
  intro p e s m below meth c s₁ hx hby hml hown hnm hret hlk hZ e0 X0
  have N0 := Fr.nil n0
  refine own_st (fun u_ k_ => castTop (own_ef_rmAC m a) k_) ?_
  show own_Go p e below _ (s₁.setTop (mkF m 0 #[.val (.ref a)] []))
  refine own_st (fun u_ k_ => XS.aloadN X0.here hx rfl (hb hby own_d_jdk_22_1_0) rfl rfl k_) ?_
  obtain ⟨T232, X232, e232, st232⟩ := initO X0 hx hZ hown (own_w hw 44 rfl) (own_w hw 16 rfl) (own_w hw 17 rfl) e0 (g := (mkF m 1 #[.val (.ref a)] [(.ref a)])) rfl (by rw [hml]; rfl) rfl (hb hby own_d_jdk_22_1_1) (by decide) (W := 0) (by show 2 * 0 + _ ≤ _; exact Nat.le_of_eq rfl) (by decide)
  refine own_st (fun u_ k_ => st232 u_ k_) ?_
  show own_Go p e below _ (T232.setTop (mkF m 4 #[.val (.ref a)] []))
  exact own_retV X232 hx hlk hret (hb hby own_d_jdk_22_1_4) (by decide) (by decide) (show QrmAC Z wcs wd a h0 n0 none T232.heap _ from (by rw [e232]; exact ⟨rfl, N0, rfl⟩))
theorem own_d_jdk_39_1_0 : decode jdk_39_method_1_code 0 = .ok (.aload_n 0, 1) := by decide +kernel
theorem own_d_jdk_39_1_1 : decode jdk_39_method_1_code 1 = .ok (.invokespecial 1, 3) := by decide +kernel
theorem own_lm_202 : ("java/util/AbstractCollection" : String) ≠ "java/lang/invoke/MethodHandle" ∧ ("java/util/AbstractCollection" : String) ≠ "java/lang/invoke/VarHandle" := by decide +kernel
theorem own_pd_203 : parseMethodDescriptor "()V" = some ⟨[], none⟩ := by decide +kernel
theorem own_d_jdk_39_1_4 : decode jdk_39_method_1_code 4 = .ok (.aload_n 0, 1) := by decide +kernel
theorem own_d_jdk_39_1_5 : decode jdk_39_method_1_code 5 = .ok (.iconst 0, 1) := by decide +kernel
theorem own_d_jdk_39_1_6 : decode jdk_39_method_1_code 6 = .ok (.putfield 7, 3) := by decide +kernel
theorem own_lm_207 : parseFieldDescriptor "I" = some .int := by decide +kernel
abbrev own_c_208 : String := "java/util/AbstractList"
theorem own_d_jdk_39_1_9 : decode jdk_39_method_1_code 9 = .ok (.return_, 1) := by decide +kernel
theorem own_lm_210 : ("elementData" : String) ≠ "modCount" := by decide +kernel
theorem own_lm_211 : parseFieldDescriptor "[Ljava/lang/Object;" = some (.array (.object "java/lang/Object")) := by decide +kernel
def own_sn_212 {Z : State} {a0 : Array Value} (hw : own_H a0 Z) := slot_ne (Or.inl (own_w hw 49 rfl)) (Or.inl (own_w hw 46 rfl)) own_lm_210 (t := (.array (.object "java/lang/Object"))) (t' := .int) own_lm_211 own_lm_207
abbrev own_y_213 : MethodName := ⟨"java/util/AbstractList", "<init>", "()V"⟩
theorem own_pn_214 : plainName "java/util/AbstractList" = true := by first | (simp [plainName, overriddenIn]; done) | decide +kernel
theorem own_ef_rmAB (m : MethodId) (a : Addr)  : entryFrame m #[(.ref a)] 1 = mkF m 0 #[.val (.ref a)] [] := by first | (simp [entryFrame, mkF, argsToLocals, Value.category, maxLocals]; done) | rfl
def QrmAB (Z : State) (wcs : Int32) (wd : Addr) (a : Addr) (h0 : Heap) (n0 : Nat) (v : Option Value) (h : Heap) (L : List Loc) : Prop := v = none ∧ Fr n0 L ∧ Keep h0 h [a] ∧ Exa Z h a "java/util/ArrayList" ∧ Fld Z h a "java/util/ArrayList" "elementData" "[Ljava/lang/Object;" .null
set_option maxRecDepth 65536 in
set_option maxHeartbeats 40000000 in
theorem rmAB (l : Launch) (Z : State) (a0 : Array Value) (hw : own_H a0 Z) (ws : List Jvm.Cond) (wcs : Int32) (wd : Addr) (hS : own_S Z wcs wd) (a : Addr) (h0 : Heap) (n0 : Nat) (O0 : Old Z n0 h0) (E : Exa Z h0 a "java/util/ArrayList") (ga : n0 ≤ a) (F1 : Fld Z h0 a own_c_208 "modCount" "I" (.int (0 : Int32))) (F2 : Fld Z h0 a "java/util/ArrayList" "elementData" "[Ljava/lang/Object;" .null) :
    own_Met l own_y_213 jdk_39_method_1_code 1 none ws ({ frames := 2, cells := 0, slots := 0, locals := 24 } : Room) Z h0 #[(.ref a)] (QrmAB Z wcs wd a h0 n0) := by
  refine own_body (plainFor_of_name own_pn_214) ?_
  intro p e s m below meth c s₁ hx hby hml hown hnm hret hlk hZ e0 X0
  have N0 := Fr.nil n0
  refine own_st (fun u_ k_ => castTop (own_ef_rmAB m a) k_) ?_
  show own_Go p e below _ (s₁.setTop (mkF m 0 #[.val (.ref a)] []))
  refine own_st (fun u_ k_ => XS.aloadN X0.here hx rfl (hb hby own_d_jdk_39_1_0) rfl rfl k_) ?_
  obtain ⟨T233, v233, L233, X233, hQ233, st233⟩ := own_callN X0 hx hZ (y := own_y_198) rfl hown (own_w hw 38 rfl) (own_w hw 39 rfl) (own_w hw 42 rfl) (own_w hw 43 rfl) own_lm_202 (rmAC l Z a0 hw [] wcs wd hS a h0 n0 O0 ) e0 own_pd_203 (a := a) (argsL := []) (rest := []) rfl rfl (g := (mkF m 1 #[.val (.ref a)] [(.ref a)])) rfl (by rw [hml]; rfl) rfl (hb hby own_d_jdk_39_1_1) (W := 0) rfl (by decide) (by decide) (by decide) (by decide)
  obtain ⟨rfl, M233, e233⟩ := hQ233
  have N233 := Fr.app N0 M233
  refine own_st (fun u_ k_ => st233 u_ k_) ?_
  show own_Go p e below _ (T233.setTop (mkF m 4 #[.val (.ref a)] []))
  refine own_st (fun u_ k_ => XS.aloadN X233.here hx rfl (hb hby own_d_jdk_39_1_4) rfl rfl k_) ?_
  refine own_st (fun u_ k_ => XS.iconst X233.here hx rfl (hb hby own_d_jdk_39_1_5) k_) ?_
  show own_Go p e below _ (T233.setTop (mkF m 6 #[.val (.ref a)] [(.int (0 : Int32)), (.ref a)]))
  obtain ⟨T234, h234, X234, e234, W234, st234⟩ := putF X233 hx hZ hown (host := "") (Or.inl (own_w hw 45 rfl)) Via.refl e233 F1 E (Or.inl (own_w hw 46 rfl)) (own_w hw 27 rfl) (ty := .int) own_lm_207 rfl rfl (g := (mkF m 6 #[.val (.ref a)] [(.int (0 : Int32)), (.ref a)])) rfl rfl (hb hby own_d_jdk_39_1_6)
  have N234 := Fr.snoc X234 N233 ga
  have F235 : Fld Z h234 a own_c_208 "modCount" "I" (.int (0 : Int32)) := Fld.same W234 F1
  refine own_st (fun u_ k_ => st234 u_ k_) ?_
  show own_Go p e below _ (T234.setTop (mkF m 9 #[.val (.ref a)] []))
  have K236 : Keep h0 h234 [a] := (Keep.refl h0 [a]).wr W234 (Or.inl (List.mem_of_getElem? (i := 0) rfl))
  have F237 := (Exa.wr W234 E)
  have F238 := (Fld.other W234 F2 (Or.inr (own_sn_212 hw)))
  exact own_retV X234 hx hlk hret (hb hby own_d_jdk_39_1_9) (by decide) (by decide) (show QrmAB Z wcs wd a h0 n0 none T234.heap _ from (by rw [e234]; exact ⟨rfl, N234, K236, F237, F238⟩))
theorem own_d_jdk_38_2_0 : decode jdk_38_method_2_code 0 = .ok (.aload_n 0, 1) := by decide +kernel
theorem own_d_jdk_38_2_1 : decode jdk_38_method_2_code 1 = .ok (.invokespecial 1, 3) := by decide +kernel
theorem own_lm_217 : ("java/util/AbstractList" : String) ≠ "java/lang/invoke/MethodHandle" ∧ ("java/util/AbstractList" : String) ≠ "java/lang/invoke/VarHandle" := by decide +kernel
theorem own_d_jdk_38_2_4 : decode jdk_38_method_2_code 4 = .ok (.aload_n 0, 1) := by decide +kernel
theorem own_d_jdk_38_2_5 : decode jdk_38_method_2_code 5 = .ok (.getstatic 39, 3) := by decide +kernel
theorem own_d_jdk_38_2_8 : decode jdk_38_method_2_code 8 = .ok (.putfield 9, 3) := by decide +kernel
theorem own_d_jdk_38_2_11 : decode jdk_38_method_2_code 11 = .ok (.return_, 1) := by decide +kernel
abbrev own_y_222 : MethodName := ⟨"java/util/ArrayList", "<init>", "()V"⟩
theorem own_pn_223 : plainName "java/util/ArrayList" = true := by first | (simp [plainName, overriddenIn]; done) | decide +kernel
theorem own_ef_rmAL (m : MethodId) (a : Addr)  : entryFrame m #[(.ref a)] 1 = mkF m 0 #[.val (.ref a)] [] := by first | (simp [entryFrame, mkF, argsToLocals, Value.category, maxLocals]; done) | rfl
def QrmAL (Z : State) (wcs : Int32) (wd : Addr) (a : Addr) (h0 : Heap) (n0 : Nat) (v : Option Value) (h : Heap) (L : List Loc) : Prop := v = none ∧ Fr n0 L ∧ Keep h0 h [a] ∧ Exa Z h a "java/util/ArrayList"
set_option maxRecDepth 65536 in
set_option maxHeartbeats 40000000 in
theorem rmAL (l : Launch) (Z : State) (a0 : Array Value) (hw : own_H a0 Z) (ws : List Jvm.Cond) (wcs : Int32) (wd : Addr) (hS : own_S Z wcs wd) (a : Addr) (h0 : Heap) (n0 : Nat) (O0 : Old Z n0 h0) (E : Exa Z h0 a "java/util/ArrayList") (ga : n0 ≤ a) (F1 : Fld Z h0 a own_c_208 "modCount" "I" (.int (0 : Int32))) (F2 : Fld Z h0 a "java/util/ArrayList" "elementData" "[Ljava/lang/Object;" .null) :
    own_Met l own_y_222 jdk_38_method_2_code 1 none ws ({ frames := 3, cells := 0, slots := 0, locals := 36 } : Room) Z h0 #[(.ref a)] (QrmAL Z wcs wd a h0 n0) := by
  refine own_body (plainFor_of_name own_pn_223) ?_
  intro p e s m below meth c s₁ hx hby hml hown hnm hret hlk hZ e0 X0
  have N0 := Fr.nil n0
  refine own_st (fun u_ k_ => castTop (own_ef_rmAL m a) k_) ?_
  show own_Go p e below _ (s₁.setTop (mkF m 0 #[.val (.ref a)] []))
  refine own_st (fun u_ k_ => XS.aloadN X0.here hx rfl (hb hby own_d_jdk_38_2_0) rfl rfl k_) ?_
  obtain ⟨T239, v239, L239, X239, hQ239, st239⟩ := own_callN X0 hx hZ (y := own_y_213) rfl hown (own_w hw 32 rfl) (own_w hw 33 rfl) (own_w hw 36 rfl) (own_w hw 37 rfl) own_lm_217 (rmAB l Z a0 hw [] wcs wd hS a h0 n0 O0 E ga F1 F2) e0 own_pd_203 (a := a) (argsL := []) (rest := []) rfl rfl (g := (mkF m 1 #[.val (.ref a)] [(.ref a)])) rfl (by rw [hml]; rfl) rfl (hb hby own_d_jdk_38_2_1) (W := 0) rfl (by decide) (by decide) (by decide) (by decide)
  obtain ⟨rfl, M239, K239, F240, F241⟩ := hQ239
  have N239 := Fr.app N0 M239
  refine own_st (fun u_ k_ => st239 u_ k_) ?_
  show own_Go p e below _ (T239.setTop (mkF m 4 #[.val (.ref a)] []))
  refine own_st (fun u_ k_ => XS.aloadN X239.here hx rfl (hb hby own_d_jdk_38_2_4) rfl rfl k_) ?_
  have O242 : Old Z n0 T239.heap := O0.keep K239 (allS ga all0)
  have F243 := Sta.ext O242.2 hS.2.2
  obtain ⟨T244, X244, e244, st244⟩ := getS2 X239 hx hZ hown (host := "") (Or.inl (own_w hw 47 rfl)) Via.refl rfl F243 (g := (mkF m 5 #[.val (.ref a)] [(.ref a)])) rfl (hb hby own_d_jdk_38_2_5)
  refine own_st (fun u_ k_ => st244 u_ k_) ?_
  show own_Go p e below _ (T244.setTop (mkF m 8 #[.val (.ref a)] [(.ref wd), (.ref a)]))
  obtain ⟨T245, h245, X245, e245, W245, st245⟩ := putF X244 hx hZ hown (host := "") (Or.inl (own_w hw 48 rfl)) Via.refl e244 F241 F240 (Or.inl (own_w hw 49 rfl)) (own_w hw 27 rfl) (ty := (.array (.object "java/lang/Object"))) own_lm_211 rfl rfl (g := (mkF m 8 #[.val (.ref a)] [(.ref wd), (.ref a)])) rfl rfl (hb hby own_d_jdk_38_2_8)
  have N245 := Fr.snoc X245 N239 ga
  have F246 : Fld Z h245 a "java/util/ArrayList" "elementData" "[Ljava/lang/Object;" (.ref wd) := Fld.same W245 F241
  refine own_st (fun u_ k_ => st245 u_ k_) ?_
  show own_Go p e below _ (T245.setTop (mkF m 11 #[.val (.ref a)] []))
  have K247 : Keep h0 T239.heap [a] := (Keep.refl h0 [a]).trans K239 (allS (Or.inl (List.mem_of_getElem? (i := 0) rfl)) all0)
  have K248 : Keep h0 h245 [a] := K247.wr W245 (Or.inl (List.mem_of_getElem? (i := 0) rfl))
  have F249 := (Exa.wr W245 F240)
  exact own_retV X245 hx hlk hret (hb hby own_d_jdk_38_2_11) (by decide) (by decide) (show QrmAL Z wcs wd a h0 n0 none T245.heap _ from (by rw [e245]; exact ⟨rfl, N245, K248, F249⟩))
theorem own_d_prog_4_1_0 : decode prog_4_method_1_code 0 = .ok (.aload_n 0, 1) := by decide +kernel
theorem own_d_prog_4_1_1 : decode prog_4_method_1_code 1 = .ok (.invokespecial 1, 3) := by decide +kernel
theorem own_lm_226 : ("java/lang/Record" : String) ≠ "java/lang/invoke/MethodHandle" ∧ ("java/lang/Record" : String) ≠ "java/lang/invoke/VarHandle" := by decide +kernel
theorem own_d_prog_4_1_4 : decode prog_4_method_1_code 4 = .ok (.aload_n 0, 1) := by decide +kernel
theorem own_d_prog_4_1_5 : decode prog_4_method_1_code 5 = .ok (.iload_n 1, 1) := by decide +kernel
theorem own_d_prog_4_1_6 : decode prog_4_method_1_code 6 = .ok (.putfield 7, 3) := by decide +kernel
abbrev own_c_230 : String := "com/example/spulenwerk/spulenwerk/delivery/DeliveredLine"
theorem own_d_prog_4_1_9 : decode prog_4_method_1_code 9 = .ok (.aload_n 0, 1) := by decide +kernel
theorem own_d_prog_4_1_10 : decode prog_4_method_1_code 10 = .ok (.aload_n 2, 1) := by decide +kernel
theorem own_d_prog_4_1_11 : decode prog_4_method_1_code 11 = .ok (.putfield 13, 3) := by decide +kernel
theorem own_lm_234 : ("id" : String) ≠ "number" := by decide +kernel
theorem own_lm_235 : parseFieldDescriptor "Ljava/lang/String;" = some (.object "java/lang/String") := by decide +kernel
def own_sn_236 {Z : State} {a0 : Array Value} (hw : own_H a0 Z) := slot_ne (Or.inr (own_w hw 65 rfl)) (Or.inr (own_w hw 63 rfl)) own_lm_234 (t := (.object "java/lang/String")) (t' := .int) own_lm_235 own_lm_207
theorem own_d_prog_4_1_14 : decode prog_4_method_1_code 14 = .ok (.aload_n 0, 1) := by decide +kernel
theorem own_d_prog_4_1_15 : decode prog_4_method_1_code 15 = .ok (.aload_n 3, 1) := by decide +kernel
theorem own_d_prog_4_1_16 : decode prog_4_method_1_code 16 = .ok (.putfield 17, 3) := by decide +kernel
theorem own_lm_240 : ("data" : String) ≠ "number" := by decide +kernel
def own_sn_241 {Z : State} {a0 : Array Value} (hw : own_H a0 Z) := slot_ne (Or.inr (own_w hw 67 rfl)) (Or.inr (own_w hw 63 rfl)) own_lm_240 (t := (.object "java/lang/String")) (t' := .int) own_lm_235 own_lm_207
theorem own_lm_242 : ("data" : String) ≠ "id" := by decide +kernel
def own_sn_243 {Z : State} {a0 : Array Value} (hw : own_H a0 Z) := slot_ne (Or.inr (own_w hw 67 rfl)) (Or.inr (own_w hw 65 rfl)) own_lm_242 (t := (.object "java/lang/String")) (t' := (.object "java/lang/String")) own_lm_235 own_lm_235
theorem own_d_prog_4_1_19 : decode prog_4_method_1_code 19 = .ok (.aload_n 0, 1) := by decide +kernel
theorem own_d_prog_4_1_20 : decode prog_4_method_1_code 20 = .ok (.aload 4, 2) := by decide +kernel
theorem own_d_prog_4_1_22 : decode prog_4_method_1_code 22 = .ok (.putfield 20, 3) := by decide +kernel
theorem own_lm_247 : ("manifestations" : String) ≠ "number" := by decide +kernel
theorem own_lm_248 : parseFieldDescriptor "Ljava/util/List;" = some (.object "java/util/List") := by decide +kernel
def own_sn_249 {Z : State} {a0 : Array Value} (hw : own_H a0 Z) := slot_ne (Or.inr (own_w hw 69 rfl)) (Or.inr (own_w hw 63 rfl)) own_lm_247 (t := (.object "java/util/List")) (t' := .int) own_lm_248 own_lm_207
theorem own_lm_250 : ("manifestations" : String) ≠ "id" := by decide +kernel
def own_sn_251 {Z : State} {a0 : Array Value} (hw : own_H a0 Z) := slot_ne (Or.inr (own_w hw 69 rfl)) (Or.inr (own_w hw 65 rfl)) own_lm_250 (t := (.object "java/util/List")) (t' := (.object "java/lang/String")) own_lm_248 own_lm_235
theorem own_lm_252 : ("manifestations" : String) ≠ "data" := by decide +kernel
def own_sn_253 {Z : State} {a0 : Array Value} (hw : own_H a0 Z) := slot_ne (Or.inr (own_w hw 69 rfl)) (Or.inr (own_w hw 67 rfl)) own_lm_252 (t := (.object "java/util/List")) (t' := (.object "java/lang/String")) own_lm_248 own_lm_235
theorem own_d_prog_4_1_25 : decode prog_4_method_1_code 25 = .ok (.aload_n 0, 1) := by decide +kernel
theorem own_d_prog_4_1_26 : decode prog_4_method_1_code 26 = .ok (.aload 5, 2) := by decide +kernel
theorem own_d_prog_4_1_28 : decode prog_4_method_1_code 28 = .ok (.putfield 24, 3) := by decide +kernel
theorem own_lm_257 : ("refusal" : String) ≠ "number" := by decide +kernel
def own_sn_258 {Z : State} {a0 : Array Value} (hw : own_H a0 Z) := slot_ne (Or.inr (own_w hw 71 rfl)) (Or.inr (own_w hw 63 rfl)) own_lm_257 (t := (.object "java/lang/String")) (t' := .int) own_lm_235 own_lm_207
theorem own_lm_259 : ("refusal" : String) ≠ "id" := by decide +kernel
def own_sn_260 {Z : State} {a0 : Array Value} (hw : own_H a0 Z) := slot_ne (Or.inr (own_w hw 71 rfl)) (Or.inr (own_w hw 65 rfl)) own_lm_259 (t := (.object "java/lang/String")) (t' := (.object "java/lang/String")) own_lm_235 own_lm_235
theorem own_lm_261 : ("refusal" : String) ≠ "data" := by decide +kernel
def own_sn_262 {Z : State} {a0 : Array Value} (hw : own_H a0 Z) := slot_ne (Or.inr (own_w hw 71 rfl)) (Or.inr (own_w hw 67 rfl)) own_lm_261 (t := (.object "java/lang/String")) (t' := (.object "java/lang/String")) own_lm_235 own_lm_235
theorem own_lm_263 : ("refusal" : String) ≠ "manifestations" := by decide +kernel
def own_sn_264 {Z : State} {a0 : Array Value} (hw : own_H a0 Z) := slot_ne (Or.inr (own_w hw 71 rfl)) (Or.inr (own_w hw 69 rfl)) own_lm_263 (t := (.object "java/lang/String")) (t' := (.object "java/util/List")) own_lm_235 own_lm_248
theorem own_d_prog_4_1_31 : decode prog_4_method_1_code 31 = .ok (.return_, 1) := by decide +kernel
abbrev own_y_266 : MethodName := ⟨"com/example/spulenwerk/spulenwerk/delivery/DeliveredLine", "<init>", "(ILjava/lang/String;Ljava/lang/String;Ljava/util/List;Ljava/lang/String;)V"⟩
theorem own_pn_267 : plainName "com/example/spulenwerk/spulenwerk/delivery/DeliveredLine" = true := by first | (simp [plainName, overriddenIn]; done) | decide +kernel
theorem own_ef_rmDL (m : MethodId) (a : Addr) (nb : Int32) (xi : Value) (xd : Value) (xm : Value) (xr : Value) (hxi : xi.isRef = true) (hxd : xd.isRef = true) (hxm : xm.isRef = true) (hxr : xr.isRef = true) : entryFrame m #[(.ref a), (.int nb), xi, xd, xm, xr] 6 = mkF m 0 #[.val (.ref a), .val (.int nb), .val xi, .val xd, .val xm, .val xr] [] := by rcases ref_cases hxi with rfl | ⟨_, rfl⟩ <;> rcases ref_cases hxd with rfl | ⟨_, rfl⟩ <;> rcases ref_cases hxm with rfl | ⟨_, rfl⟩ <;> rcases ref_cases hxr with rfl | ⟨_, rfl⟩ <;> first | (simp [entryFrame, mkF, argsToLocals, Value.category, maxLocals]; done) | rfl
def QrmDL (Z : State) (wcs : Int32) (wd : Addr) (a : Addr) (nb : Int32) (xi : Value) (xd : Value) (xm : Value) (xr : Value) (h0 : Heap) (n0 : Nat) (v : Option Value) (h : Heap) (L : List Loc) : Prop := v = none ∧ Fr n0 L ∧ Keep h0 h [a] ∧ Exa Z h a own_c_230 ∧ Fld Z h a own_c_230 "refusal" "Ljava/lang/String;" xr
set_option maxRecDepth 65536 in
set_option maxHeartbeats 40000000 in
theorem rmDL (l : Launch) (Z : State) (a0 : Array Value) (hw : own_H a0 Z) (ws : List Jvm.Cond) (wcs : Int32) (wd : Addr) (hS : own_S Z wcs wd) (a : Addr) (nb : Int32) (xi : Value) (xd : Value) (xm : Value) (xr : Value) (h0 : Heap) (n0 : Nat) (O0 : Old Z n0 h0) (E : Exa Z h0 a own_c_230) (ga : n0 ≤ a) (hxi : xi.isRef = true) (hxd : xd.isRef = true) (hxm : xm.isRef = true) (hxr : xr.isRef = true) (F0 : Fld Z h0 a own_c_230 "number" "I" (.int (0 : Int32))) (F1 : Fld Z h0 a own_c_230 "id" "Ljava/lang/String;" .null) (F2 : Fld Z h0 a own_c_230 "data" "Ljava/lang/String;" .null) (F3 : Fld Z h0 a own_c_230 "manifestations" "Ljava/util/List;" .null) (F4 : Fld Z h0 a own_c_230 "refusal" "Ljava/lang/String;" .null) :
    own_Met l own_y_266 prog_4_method_1_code 6 none ws ({ frames := 2, cells := 0, slots := 0, locals := 24 } : Room) Z h0 #[(.ref a), (.int nb), xi, xd, xm, xr] (QrmDL Z wcs wd a nb xi xd xm xr h0 n0) := by
  refine own_body (plainFor_of_name own_pn_267) ?_
  intro p e s m below meth c s₁ hx hby hml hown hnm hret hlk hZ e0 X0
  have N0 := Fr.nil n0
  refine own_st (fun u_ k_ => castTop (own_ef_rmDL m a nb xi xd xm xr hxi hxd hxm hxr) k_) ?_
  show own_Go p e below _ (s₁.setTop (mkF m 0 #[.val (.ref a), .val (.int nb), .val xi, .val xd, .val xm, .val xr] []))
  refine own_st (fun u_ k_ => XS.aloadN X0.here hx rfl (hb hby own_d_prog_4_1_0) rfl rfl k_) ?_
  obtain ⟨T250, v250, L250, X250, hQ250, st250⟩ := own_callN X0 hx hZ (y := own_y_193) rfl hown (own_w hw 56 rfl) (own_w hw 57 rfl) (own_w hw 59 rfl) (own_w hw 60 rfl) own_lm_226 (rmRec l Z a0 hw [] wcs wd hS a h0 n0 O0 ) e0 own_pd_203 (a := a) (argsL := []) (rest := []) rfl rfl (g := (mkF m 1 #[.val (.ref a), .val (.int nb), .val xi, .val xd, .val xm, .val xr] [(.ref a)])) rfl (by rw [hml]; rfl) rfl (hb hby own_d_prog_4_1_1) (W := 0) rfl (by decide) (by decide) (by decide) (by decide)
  obtain ⟨rfl, M250, e250⟩ := hQ250
  have N250 := Fr.app N0 M250
  refine own_st (fun u_ k_ => st250 u_ k_) ?_
  show own_Go p e below _ (T250.setTop (mkF m 4 #[.val (.ref a), .val (.int nb), .val xi, .val xd, .val xm, .val xr] []))
  refine own_st (fun u_ k_ => XS.aloadN X250.here hx rfl (hb hby own_d_prog_4_1_4) rfl rfl k_) ?_
  refine own_st (fun u_ k_ => XS.iloadN X250.here hx rfl (hb hby own_d_prog_4_1_5) rfl k_) ?_
  show own_Go p e below _ (T250.setTop (mkF m 6 #[.val (.ref a), .val (.int nb), .val xi, .val xd, .val xm, .val xr] [(.int nb), (.ref a)]))
  obtain ⟨T251, h251, X251, e251, W251, st251⟩ := putF X250 hx hZ hown (host := "") (Or.inl (own_w hw 62 rfl)) Via.refl e250 F0 E (Or.inr ⟨(own_w hw 63 rfl), rfl, hnm⟩) (own_w hw 51 rfl) (ty := .int) own_lm_207 rfl rfl (g := (mkF m 6 #[.val (.ref a), .val (.int nb), .val xi, .val xd, .val xm, .val xr] [(.int nb), (.ref a)])) rfl rfl (hb hby own_d_prog_4_1_6)
  have N251 := Fr.snoc X251 N250 ga
  have F252 : Fld Z h251 a own_c_230 "number" "I" (.int nb) := Fld.same W251 F0
  refine own_st (fun u_ k_ => st251 u_ k_) ?_
  show own_Go p e below _ (T251.setTop (mkF m 9 #[.val (.ref a), .val (.int nb), .val xi, .val xd, .val xm, .val xr] []))
  refine own_st (fun u_ k_ => XS.aloadN X251.here hx rfl (hb hby own_d_prog_4_1_9) rfl rfl k_) ?_
  refine own_st (fun u_ k_ => XS.aloadN X251.here hx rfl (hb hby own_d_prog_4_1_10) rfl hxi k_) ?_
  show own_Go p e below _ (T251.setTop (mkF m 11 #[.val (.ref a), .val (.int nb), .val xi, .val xd, .val xm, .val xr] [xi, (.ref a)]))
  have F253 := (Exa.wr W251 E)
  have F254 := (Fld.other W251 F1 (Or.inr (own_sn_236 hw)))
  obtain ⟨T255, h255, X255, e255, W255, st255⟩ := putF X251 hx hZ hown (host := "") (Or.inl (own_w hw 64 rfl)) Via.refl e251 F254 F253 (Or.inr ⟨(own_w hw 65 rfl), rfl, hnm⟩) (own_w hw 51 rfl) (ty := (.object "java/lang/String")) own_lm_235 (own_narG hxi) (own_fitG hxi) (g := (mkF m 11 #[.val (.ref a), .val (.int nb), .val xi, .val xd, .val xm, .val xr] [xi, (.ref a)])) rfl rfl (hb hby own_d_prog_4_1_11)
  have N255 := Fr.snoc X255 N251 ga
  have F256 : Fld Z h255 a own_c_230 "id" "Ljava/lang/String;" xi := Fld.same W255 F254
  refine own_st (fun u_ k_ => st255 u_ k_) ?_
  show own_Go p e below _ (T255.setTop (mkF m 14 #[.val (.ref a), .val (.int nb), .val xi, .val xd, .val xm, .val xr] []))
  refine own_st (fun u_ k_ => XS.aloadN X255.here hx rfl (hb hby own_d_prog_4_1_14) rfl rfl k_) ?_
  refine own_st (fun u_ k_ => XS.aloadN X255.here hx rfl (hb hby own_d_prog_4_1_15) rfl hxd k_) ?_
  show own_Go p e below _ (T255.setTop (mkF m 16 #[.val (.ref a), .val (.int nb), .val xi, .val xd, .val xm, .val xr] [xd, (.ref a)]))
  have F257 := (Exa.wr W255 F253)
  have F258 := (Fld.other W255 (Fld.other W251 F2 (Or.inr (own_sn_241 hw))) (Or.inr (own_sn_243 hw)))
  obtain ⟨T259, h259, X259, e259, W259, st259⟩ := putF X255 hx hZ hown (host := "") (Or.inl (own_w hw 66 rfl)) Via.refl e255 F258 F257 (Or.inr ⟨(own_w hw 67 rfl), rfl, hnm⟩) (own_w hw 51 rfl) (ty := (.object "java/lang/String")) own_lm_235 (own_narG hxd) (own_fitG hxd) (g := (mkF m 16 #[.val (.ref a), .val (.int nb), .val xi, .val xd, .val xm, .val xr] [xd, (.ref a)])) rfl rfl (hb hby own_d_prog_4_1_16)
  have N259 := Fr.snoc X259 N255 ga
  have F260 : Fld Z h259 a own_c_230 "data" "Ljava/lang/String;" xd := Fld.same W259 F258
  refine own_st (fun u_ k_ => st259 u_ k_) ?_
  show own_Go p e below _ (T259.setTop (mkF m 19 #[.val (.ref a), .val (.int nb), .val xi, .val xd, .val xm, .val xr] []))
  refine own_st (fun u_ k_ => XS.aloadN X259.here hx rfl (hb hby own_d_prog_4_1_19) rfl rfl k_) ?_
  refine own_st (fun u_ k_ => XS.aload X259.here hx rfl (hb hby own_d_prog_4_1_20) rfl hxm k_) ?_
  show own_Go p e below _ (T259.setTop (mkF m 22 #[.val (.ref a), .val (.int nb), .val xi, .val xd, .val xm, .val xr] [xm, (.ref a)]))
  have F261 := (Exa.wr W259 F257)
  have F262 := (Fld.other W259 (Fld.other W255 (Fld.other W251 F3 (Or.inr (own_sn_249 hw))) (Or.inr (own_sn_251 hw))) (Or.inr (own_sn_253 hw)))
  obtain ⟨T263, h263, X263, e263, W263, st263⟩ := putF X259 hx hZ hown (host := "") (Or.inl (own_w hw 68 rfl)) Via.refl e259 F262 F261 (Or.inr ⟨(own_w hw 69 rfl), rfl, hnm⟩) (own_w hw 51 rfl) (ty := (.object "java/util/List")) own_lm_248 (own_narG hxm) (own_fitG hxm) (g := (mkF m 22 #[.val (.ref a), .val (.int nb), .val xi, .val xd, .val xm, .val xr] [xm, (.ref a)])) rfl rfl (hb hby own_d_prog_4_1_22)
  have N263 := Fr.snoc X263 N259 ga
  have F264 : Fld Z h263 a own_c_230 "manifestations" "Ljava/util/List;" xm := Fld.same W263 F262
  refine own_st (fun u_ k_ => st263 u_ k_) ?_
  show own_Go p e below _ (T263.setTop (mkF m 25 #[.val (.ref a), .val (.int nb), .val xi, .val xd, .val xm, .val xr] []))
  refine own_st (fun u_ k_ => XS.aloadN X263.here hx rfl (hb hby own_d_prog_4_1_25) rfl rfl k_) ?_
  refine own_st (fun u_ k_ => XS.aload X263.here hx rfl (hb hby own_d_prog_4_1_26) rfl hxr k_) ?_
  show own_Go p e below _ (T263.setTop (mkF m 28 #[.val (.ref a), .val (.int nb), .val xi, .val xd, .val xm, .val xr] [xr, (.ref a)]))
  have F265 := (Exa.wr W263 F261)
  have F266 := (Fld.other W263 (Fld.other W259 (Fld.other W255 (Fld.other W251 F4 (Or.inr (own_sn_258 hw))) (Or.inr (own_sn_260 hw))) (Or.inr (own_sn_262 hw))) (Or.inr (own_sn_264 hw)))
  obtain ⟨T267, h267, X267, e267, W267, st267⟩ := putF X263 hx hZ hown (host := "") (Or.inl (own_w hw 70 rfl)) Via.refl e263 F266 F265 (Or.inr ⟨(own_w hw 71 rfl), rfl, hnm⟩) (own_w hw 51 rfl) (ty := (.object "java/lang/String")) own_lm_235 (own_narG hxr) (own_fitG hxr) (g := (mkF m 28 #[.val (.ref a), .val (.int nb), .val xi, .val xd, .val xm, .val xr] [xr, (.ref a)])) rfl rfl (hb hby own_d_prog_4_1_28)
  have N267 := Fr.snoc X267 N263 ga
  have F268 : Fld Z h267 a own_c_230 "refusal" "Ljava/lang/String;" xr := Fld.same W267 F266
  refine own_st (fun u_ k_ => st267 u_ k_) ?_
  show own_Go p e below _ (T267.setTop (mkF m 31 #[.val (.ref a), .val (.int nb), .val xi, .val xd, .val xm, .val xr] []))
  have K269 : Keep h0 h251 [a] := (Keep.refl h0 [a]).wr W251 (Or.inl (List.mem_of_getElem? (i := 0) rfl))
  have K270 : Keep h0 h255 [a] := K269.wr W255 (Or.inl (List.mem_of_getElem? (i := 0) rfl))
  have K271 : Keep h0 h259 [a] := K270.wr W259 (Or.inl (List.mem_of_getElem? (i := 0) rfl))
  have K272 : Keep h0 h263 [a] := K271.wr W263 (Or.inl (List.mem_of_getElem? (i := 0) rfl))
  have K273 : Keep h0 h267 [a] := K272.wr W267 (Or.inl (List.mem_of_getElem? (i := 0) rfl))
  have F274 := (Exa.wr W267 F265)
  exact own_retV X267 hx hlk hret (hb hby own_d_prog_4_1_31) (by decide) (by decide) (show QrmDL Z wcs wd a nb xi xd xm xr h0 n0 none T267.heap _ from (by rw [e267]; exact ⟨rfl, N267, K273, F274, F268⟩))
theorem own_d_prog_4_4_0 : decode prog_4_method_4_code 0 = .ok (.aload_n 0, 1) := by decide +kernel
theorem own_d_prog_4_4_1 : decode prog_4_method_4_code 1 = .ok (.getfield 24, 3) := by decide +kernel
theorem own_d_prog_4_4_4 : decode prog_4_method_4_code 4 = .ok (.ifnull 7, 3) := by decide +kernel
theorem own_d_prog_4_4_11 : decode prog_4_method_4_code 11 = .ok (.iconst 0, 1) := by decide +kernel
theorem own_d_prog_4_4_12 : decode prog_4_method_4_code 12 = .ok (.ireturn, 1) := by decide +kernel
abbrev own_y_273 : MethodName := ⟨"com/example/spulenwerk/spulenwerk/delivery/DeliveredLine", "isRefused", "()Z"⟩
theorem own_ef_rmIN (m : MethodId) (a : Addr)  : entryFrame m #[(.ref a)] 1 = mkF m 0 #[.val (.ref a)] [] := by first | (simp [entryFrame, mkF, argsToLocals, Value.category, maxLocals]; done) | rfl
def QrmIN (Z : State) (wcs : Int32) (wd : Addr) (a : Addr) (h0 : Heap) (n0 : Nat) (v : Option Value) (h : Heap) (L : List Loc) : Prop := v = some (.int (0 : Int32)) ∧ Fr n0 L ∧ h = h0
set_option maxRecDepth 65536 in
set_option maxHeartbeats 40000000 in
theorem rmIN (l : Launch) (Z : State) (a0 : Array Value) (hw : own_H a0 Z) (ws : List Jvm.Cond) (wcs : Int32) (wd : Addr) (hS : own_S Z wcs wd) (a : Addr) (h0 : Heap) (n0 : Nat) (O0 : Old Z n0 h0) (F4 : Fld Z h0 a own_c_230 "refusal" "Ljava/lang/String;" .null) :
    own_Met l own_y_273 prog_4_method_4_code 1 (some .boolean) ws ({ frames := 0, cells := 0, slots := 0, locals := 0 } : Room) Z h0 #[(.ref a)] (QrmIN Z wcs wd a h0 n0) := by
  refine own_body (plainFor_of_name own_pn_267) ?_
  intro p e s m below meth c s₁ hx hby hml hown hnm hret hlk hZ e0 X0
  have N0 := Fr.nil n0
  refine own_st (fun u_ k_ => castTop (own_ef_rmIN m a) k_) ?_
  show own_Go p e below _ (s₁.setTop (mkF m 0 #[.val (.ref a)] []))
  refine own_st (fun u_ k_ => XS.aloadN X0.here hx rfl (hb hby own_d_prog_4_4_0) rfl rfl k_) ?_
  obtain ⟨T275, X275, e275, st275⟩ := getF X0 hx hZ hown (host := "") (Or.inl (own_w hw 70 rfl)) Via.refl e0 F4 (g := (mkF m 1 #[.val (.ref a)] [(.ref a)])) rfl rfl (hb hby own_d_prog_4_4_1)
  refine own_st (fun u_ k_ => st275 u_ k_) ?_
  show own_Go p e below _ (T275.setTop (mkF m 4 #[.val (.ref a)] [.null]))
  refine own_st (fun u_ k_ => XS.ifnullYes X275.here hx rfl (pc0 := 4) (pc' := 11) rfl (hb hby own_d_prog_4_4_4) rfl (by decide) (by decide) k_) ?_
  refine own_st (fun u_ k_ => XS.iconst X275.here hx rfl (hb hby own_d_prog_4_4_11) k_) ?_
  show own_Go p e below _ (T275.setTop (mkF m 12 #[.val (.ref a)] [(.int (0 : Int32))]))
  exact own_retX X275 hx hlk hret rfl (Or.inl ⟨rfl, by simp, _, rfl⟩) (hb hby own_d_prog_4_4_12) (by decide) (by decide) (show QrmIN Z wcs wd a h0 n0 (some (.int (0 : Int32))) T275.heap _ from (by rw [e275]; exact ⟨rfl, N0, rfl⟩))
theorem own_d_prog_4_4_7 : decode prog_4_method_4_code 7 = .ok (.iconst 1, 1) := by decide +kernel
theorem own_d_prog_4_4_8 : decode prog_4_method_4_code 8 = .ok (.goto 4, 3) := by decide +kernel
theorem own_ef_rmIR (m : MethodId) (a : Addr)  : entryFrame m #[(.ref a)] 1 = mkF m 0 #[.val (.ref a)] [] := by first | (simp [entryFrame, mkF, argsToLocals, Value.category, maxLocals]; done) | rfl
def QrmIR (Z : State) (wcs : Int32) (wd : Addr) (a : Addr) (t : Addr) (h0 : Heap) (n0 : Nat) (v : Option Value) (h : Heap) (L : List Loc) : Prop := v = some (.int (1 : Int32)) ∧ Fr n0 L ∧ h = h0
set_option maxRecDepth 65536 in
set_option maxHeartbeats 40000000 in
theorem rmIR (l : Launch) (Z : State) (a0 : Array Value) (hw : own_H a0 Z) (ws : List Jvm.Cond) (wcs : Int32) (wd : Addr) (hS : own_S Z wcs wd) (a : Addr) (t : Addr) (h0 : Heap) (n0 : Nat) (O0 : Old Z n0 h0) (F4 : Fld Z h0 a own_c_230 "refusal" "Ljava/lang/String;" (.ref t)) :
    own_Met l own_y_273 prog_4_method_4_code 1 (some .boolean) ws ({ frames := 0, cells := 0, slots := 0, locals := 0 } : Room) Z h0 #[(.ref a)] (QrmIR Z wcs wd a t h0 n0) := by
  refine own_body (plainFor_of_name own_pn_267) ?_
  intro p e s m below meth c s₁ hx hby hml hown hnm hret hlk hZ e0 X0
  have N0 := Fr.nil n0
  refine own_st (fun u_ k_ => castTop (own_ef_rmIR m a) k_) ?_
  show own_Go p e below _ (s₁.setTop (mkF m 0 #[.val (.ref a)] []))
  refine own_st (fun u_ k_ => XS.aloadN X0.here hx rfl (hb hby own_d_prog_4_4_0) rfl rfl k_) ?_
  obtain ⟨T276, X276, e276, st276⟩ := getF X0 hx hZ hown (host := "") (Or.inl (own_w hw 70 rfl)) Via.refl e0 F4 (g := (mkF m 1 #[.val (.ref a)] [(.ref a)])) rfl rfl (hb hby own_d_prog_4_4_1)
  refine own_st (fun u_ k_ => st276 u_ k_) ?_
  show own_Go p e below _ (T276.setTop (mkF m 4 #[.val (.ref a)] [(.ref t)]))
  refine own_st (fun u_ k_ => XS.ifnullNo X276.here hx rfl (hb hby own_d_prog_4_4_4) rfl k_) ?_
  refine own_st (fun u_ k_ => XS.iconst X276.here hx rfl (hb hby own_d_prog_4_4_7) k_) ?_
  show own_Go p e below _ (T276.setTop (mkF m 8 #[.val (.ref a)] [(.int (1 : Int32))]))
  refine own_st (fun u_ k_ => XS.goto X276.here hx rfl (pc0 := 8) (pc' := 12) rfl (hb hby own_d_prog_4_4_8) (by decide) (by decide) k_) ?_
  exact own_retX X276 hx hlk hret rfl (Or.inl ⟨rfl, by simp, _, rfl⟩) (hb hby own_d_prog_4_4_12) (by decide) (by decide) (show QrmIR Z wcs wd a t h0 n0 (some (.int (1 : Int32))) T276.heap _ from (by rw [e276]; exact ⟨rfl, N0, rfl⟩))
theorem own_lm_276 : ("com/example/spulenwerk/spulenwerk/delivery/DeliveredLineIsRefusedPinLaw" : String) ≠ "java/lang/invoke/MethodHandle" ∧ ("com/example/spulenwerk/spulenwerk/delivery/DeliveredLineIsRefusedPinLaw" : String) ≠ "java/lang/invoke/VarHandle" := by decide +kernel
theorem own_pd_277 : parseMethodDescriptor "(ICC)Ljava/lang/String;" = some ⟨[.int, .char, .char], some (.object "java/lang/String")⟩ := by decide +kernel
theorem own_lm_278 : ("java/util/ArrayList" : String) ≠ "java/lang/invoke/MethodHandle" ∧ ("java/util/ArrayList" : String) ≠ "java/lang/invoke/VarHandle" := by decide +kernel
theorem own_lm_279 : ("com/example/spulenwerk/spulenwerk/delivery/DeliveredLine" : String) ≠ "java/lang/invoke/MethodHandle" ∧ ("com/example/spulenwerk/spulenwerk/delivery/DeliveredLine" : String) ≠ "java/lang/invoke/VarHandle" := by decide +kernel
theorem own_pd_280 : parseMethodDescriptor "(ILjava/lang/String;Ljava/lang/String;Ljava/util/List;Ljava/lang/String;)V" = some ⟨[.int, (.object "java/lang/String"), (.object "java/lang/String"), (.object "java/util/List"), (.object "java/lang/String")], none⟩ := by decide +kernel
theorem own_pd_281 : parseMethodDescriptor "()Z" = some ⟨[], some .boolean⟩ := by decide +kernel
theorem own_lm_282 : ("java/util/ArrayList" : String) ≠ "java/lang/String" := by decide +kernel
theorem own_lm_283 : ("java/util/ArrayList" : String) ≠ "[B" := by decide +kernel
theorem own_lm_284 : ("com/example/spulenwerk/spulenwerk/delivery/DeliveredLine" : String) ≠ "java/lang/String" := by decide +kernel
theorem own_lm_285 : ("com/example/spulenwerk/spulenwerk/delivery/DeliveredLine" : String) ≠ "[B" := by decide +kernel
-- the law itself
theorem own_ef_rm0 (m : MethodId) (nb : Int32) (ca : Int32) (cb : Int32) (fl : Int32)  : entryFrame m #[(.int nb), (.int ca), (.int cb), (.int fl)] maxLocals = mkF m 0 #[.val (.int nb), .val (.int ca), .val (.int cb), .val (.int fl), .unset, .unset, .unset, .unset, .unset, .unset, .unset, .unset] [] := by first | (simp [entryFrame, mkF, argsToLocals, Value.category, maxLocals]; done) | rfl
def Qrm0 (Z : State) (wcs : Int32) (wd : Addr) (nb : Int32) (ca : Int32) (cb : Int32) (fl : Int32) (h0 : Heap) (n0 : Nat) (v : Option Value) (h : Heap) (L : List Loc) : Prop := v = some (.int (1 : Int32)) ∧ Fr n0 L ∧ Keep h0 h []
set_option maxRecDepth 65536 in
set_option maxHeartbeats 40000000 in
theorem rm0 (l : Launch) (Z : State) (a0 : Array Value) (hw : own_H a0 Z) (ws : List Jvm.Cond) (wcs : Int32) (wd : Addr) (hS : own_S Z wcs wd) (nb : Int32) (ca : Int32) (cb : Int32) (fl : Int32) (h0 : Heap) (n0 : Nat) (O0 : Old Z n0 h0)  :
    own_MetH own_EL [] l x code maxLocals ret ws room_1 Z h0 #[(.int nb), (.int ca), (.int cb), (.int fl)] (Qrm0 Z wcs wd nb ca cb fl h0 n0) := by
  refine own_bodyH (plainFor_of_name own_pn_189) ?_
  intro p e s m below meth c s₁ hx hby hml hown hnm hret hlk hZ e0 X0 hSi0 hs0 hC0 hsf0
  have hZ_0 := hZ
  have R0 : CHr Z own_EL s.vm h0 s.vm h0 := CHr.refl hC0
  have N0 := Fr.nil n0
  refine own_st (fun u_ k_ => castTop (own_ef_rm0 m nb ca cb fl) k_) ?_
  show own_Go p e below _ (s₁.setTop (mkF m 0 #[.val (.int nb), .val (.int ca), .val (.int cb), .val (.int fl), .unset, .unset, .unset, .unset, .unset, .unset, .unset, .unset] []))
  refine own_st (fun u_ k_ => XS.iloadN X0.here hx rfl (hb hby at_0) rfl k_) ?_
  refine own_st (fun u_ k_ => XS.sipush X0.here hx rfl (hb hby at_1) k_) ?_
  show own_Go p e below _ (s₁.setTop (mkF m 4 #[.val (.int nb), .val (.int ca), .val (.int cb), .val (.int fl), .unset, .unset, .unset, .unset, .unset, .unset, .unset, .unset] [(.int (255 : Int32)), (.int ca)]))
  refine own_st (fun u_ k_ => XS.iand X0.here hx rfl (hb hby at_4) rfl k_) ?_
  refine own_st (fun u_ k_ => XS.i2c X0.here hx rfl (hb hby at_5) rfl k_) ?_
  show own_Go p e below _ (s₁.setTop (mkF m 6 #[.val (.int nb), .val (.int ca), .val (.int cb), .val (.int fl), .unset, .unset, .unset, .unset, .unset, .unset, .unset, .unset] [(.int ((ca &&& (255 : Int32)).toUInt32.toUInt16.toUInt32.toInt32))]))
  refine own_st (fun u_ k_ => XS.istore X0.here hx rfl (hb hby at_6) rfl (l' := #[.val (.int nb), .val (.int ca), .val (.int cb), .val (.int fl), .val (.int ((ca &&& (255 : Int32)).toUInt32.toUInt16.toUInt32.toInt32)), .unset, .unset, .unset, .unset, .unset, .unset, .unset]) rfl k_) ?_
  refine own_st (fun u_ k_ => XS.iloadN X0.here hx rfl (hb hby at_8) rfl k_) ?_
  show own_Go p e below _ (s₁.setTop (mkF m 9 #[.val (.int nb), .val (.int ca), .val (.int cb), .val (.int fl), .val (.int ((ca &&& (255 : Int32)).toUInt32.toUInt16.toUInt32.toInt32)), .unset, .unset, .unset, .unset, .unset, .unset, .unset] [(.int cb)]))
  refine own_st (fun u_ k_ => XS.sipush X0.here hx rfl (hb hby at_9) k_) ?_
  refine own_st (fun u_ k_ => XS.iand X0.here hx rfl (hb hby at_12) rfl k_) ?_
  show own_Go p e below _ (s₁.setTop (mkF m 13 #[.val (.int nb), .val (.int ca), .val (.int cb), .val (.int fl), .val (.int ((ca &&& (255 : Int32)).toUInt32.toUInt16.toUInt32.toInt32)), .unset, .unset, .unset, .unset, .unset, .unset, .unset] [(.int (cb &&& (255 : Int32)))]))
  refine own_st (fun u_ k_ => XS.i2c X0.here hx rfl (hb hby at_13) rfl k_) ?_
  refine own_st (fun u_ k_ => XS.istore X0.here hx rfl (hb hby at_14) rfl (l' := #[.val (.int nb), .val (.int ca), .val (.int cb), .val (.int fl), .val (.int ((ca &&& (255 : Int32)).toUInt32.toUInt16.toUInt32.toInt32)), .val (.int ((cb &&& (255 : Int32)).toUInt32.toUInt16.toUInt32.toInt32)), .unset, .unset, .unset, .unset, .unset, .unset]) rfl k_) ?_
  show own_Go p e below _ (s₁.setTop (mkF m 16 #[.val (.int nb), .val (.int ca), .val (.int cb), .val (.int fl), .val (.int ((ca &&& (255 : Int32)).toUInt32.toUInt16.toUInt32.toInt32)), .val (.int ((cb &&& (255 : Int32)).toUInt32.toUInt16.toUInt32.toInt32)), .unset, .unset, .unset, .unset, .unset, .unset] []))
  refine own_st (fun u_ k_ => XS.iloadN X0.here hx rfl (hb hby at_16) rfl k_) ?_
  refine own_st (fun u_ k_ => XS.iconst X0.here hx rfl (hb hby at_17) k_) ?_
  show own_Go p e below _ (s₁.setTop (mkF m 18 #[.val (.int nb), .val (.int ca), .val (.int cb), .val (.int fl), .val (.int ((ca &&& (255 : Int32)).toUInt32.toUInt16.toUInt32.toInt32)), .val (.int ((cb &&& (255 : Int32)).toUInt32.toUInt16.toUInt32.toInt32)), .unset, .unset, .unset, .unset, .unset, .unset] [(.int (1 : Int32)), (.int fl)]))
  refine own_st (fun u_ k_ => XS.iand X0.here hx rfl (hb hby at_18) rfl k_) ?_
  by_cases hc277 : (fl &&& (1 : Int32)) = (0 : Int32)
  · refine own_st (fun u_ k_ => XS.ifYes X0.here hx rfl (pc0 := 19) (pc' := 26) rfl (hb hby at_19) rfl (XT.i0_eq_t hc277) (by decide) (by decide) k_) ?_
    show own_Go p e below _ (s₁.setTop (mkF m 26 #[.val (.int nb), .val (.int ca), .val (.int cb), .val (.int fl), .val (.int ((ca &&& (255 : Int32)).toUInt32.toUInt16.toUInt32.toInt32)), .val (.int ((cb &&& (255 : Int32)).toUInt32.toUInt16.toUInt32.toInt32)), .unset, .unset, .unset, .unset, .unset, .unset] []))
    refine own_st (fun u_ k_ => XS.iloadN X0.here hx rfl (hb hby at_26) rfl k_) ?_
    refine own_st (fun u_ k_ => XS.iconst X0.here hx rfl (hb hby at_27) k_) ?_
    show own_Go p e below _ (s₁.setTop (mkF m 28 #[.val (.int nb), .val (.int ca), .val (.int cb), .val (.int fl), .val (.int ((ca &&& (255 : Int32)).toUInt32.toUInt16.toUInt32.toInt32)), .val (.int ((cb &&& (255 : Int32)).toUInt32.toUInt16.toUInt32.toInt32)), .unset, .unset, .unset, .unset, .unset, .unset] [(.int (4 : Int32)), (.int fl)]))
    refine own_st (fun u_ k_ => XS.iushr X0.here hx rfl (hb hby at_28) rfl k_) ?_
    refine own_st (fun u_ k_ => XS.iload X0.here hx rfl (hb hby at_29) rfl k_) ?_
    show own_Go p e below _ (s₁.setTop (mkF m 31 #[.val (.int nb), .val (.int ca), .val (.int cb), .val (.int fl), .val (.int ((ca &&& (255 : Int32)).toUInt32.toUInt16.toUInt32.toInt32)), .val (.int ((cb &&& (255 : Int32)).toUInt32.toUInt16.toUInt32.toInt32)), .unset, .unset, .unset, .unset, .unset, .unset] [(.int ((ca &&& (255 : Int32)).toUInt32.toUInt16.toUInt32.toInt32)), (.int ((fl.toUInt32 >>> ((4 : Int32) &&& 31).toUInt32).toInt32))]))
    refine own_st (fun u_ k_ => XS.iload X0.here hx rfl (hb hby at_31) rfl k_) ?_
    obtain ⟨T278, v278, L278, X278, Si278, hZ278, hown278, hQ278, hr278, st278⟩ := own_callSH X0 hx hZ hSi0 (Nat.zero_le _) (own_hEL hw) R0.1 own_sf0 (y := own_y_188) hown (own_w hw 0 rfl) (own_w hw 1 rfl) (own_w hw 2 rfl) (own_w hw 3 rfl) own_lm_276 (rmStr l Z a0 hw [] wcs wd hS ((fl.toUInt32 >>> ((4 : Int32) &&& 31).toUInt32).toInt32) ((ca &&& (255 : Int32)).toUInt32.toUInt16.toUInt32.toInt32) ((cb &&& (255 : Int32)).toUInt32.toUInt16.toUInt32.toInt32) h0 n0 O0 (own_c255 _) (own_c255n _) (own_c255n _)) e0 own_pd_277 (argsL := [(.int ((fl.toUInt32 >>> ((4 : Int32) &&& 31).toUInt32).toInt32)), (.int ((ca &&& (255 : Int32)).toUInt32.toUInt16.toUInt32.toInt32)), (.int ((cb &&& (255 : Int32)).toUInt32.toUInt16.toUInt32.toInt32))]) (rest := []) rfl rfl (g := (mkF m 33 #[.val (.int nb), .val (.int ca), .val (.int cb), .val (.int fl), .val (.int ((ca &&& (255 : Int32)).toUInt32.toUInt16.toUInt32.toInt32)), .val (.int ((cb &&& (255 : Int32)).toUInt32.toUInt16.toUInt32.toInt32)), .unset, .unset, .unset, .unset, .unset, .unset] [(.int ((cb &&& (255 : Int32)).toUInt32.toUInt16.toUInt32.toInt32)), (.int ((ca &&& (255 : Int32)).toUInt32.toUInt16.toUInt32.toInt32)), (.int ((fl.toUInt32 >>> ((4 : Int32) &&& 31).toUInt32).toInt32))])) rfl (by rw [hml]; rfl) rfl (hb hby at_33) (W := 0) rfl (by decide) (by decide) (by decide) (by decide)
    obtain ⟨r_279, rfl, M278, K278, F280⟩ := hQ278
    have N278 := Fr.app N0 M278
    refine own_st (fun u_ k_ => st278 u_ k_) ?_
    show own_Go p e below _ (T278.setTop (mkF m 36 #[.val (.int nb), .val (.int ca), .val (.int cb), .val (.int fl), .val (.int ((ca &&& (255 : Int32)).toUInt32.toUInt16.toUInt32.toInt32)), .val (.int ((cb &&& (255 : Int32)).toUInt32.toUInt16.toUInt32.toInt32)), .unset, .unset, .unset, .unset, .unset, .unset] [(.ref r_279)]))
    refine own_st (fun u_ k_ => XS.astore X278.here hx rfl (hb hby at_36) rfl rfl (l' := #[.val (.int nb), .val (.int ca), .val (.int cb), .val (.int fl), .val (.int ((ca &&& (255 : Int32)).toUInt32.toUInt16.toUInt32.toInt32)), .val (.int ((cb &&& (255 : Int32)).toUInt32.toUInt16.toUInt32.toInt32)), .val (.ref r_279), .unset, .unset, .unset, .unset, .unset]) rfl k_) ?_
    refine own_st (fun u_ k_ => XS.iloadN X278.here hx rfl (hb hby at_38) rfl k_) ?_
    show own_Go p e below _ (T278.setTop (mkF m 39 #[.val (.int nb), .val (.int ca), .val (.int cb), .val (.int fl), .val (.int ((ca &&& (255 : Int32)).toUInt32.toUInt16.toUInt32.toInt32)), .val (.int ((cb &&& (255 : Int32)).toUInt32.toUInt16.toUInt32.toInt32)), .val (.ref r_279), .unset, .unset, .unset, .unset, .unset] [(.int fl)]))
    refine own_st (fun u_ k_ => XS.iconst X278.here hx rfl (hb hby at_39) k_) ?_
    refine own_st (fun u_ k_ => XS.iand X278.here hx rfl (hb hby at_40) rfl k_) ?_
    show own_Go p e below _ (T278.setTop (mkF m 41 #[.val (.int nb), .val (.int ca), .val (.int cb), .val (.int fl), .val (.int ((ca &&& (255 : Int32)).toUInt32.toUInt16.toUInt32.toInt32)), .val (.int ((cb &&& (255 : Int32)).toUInt32.toUInt16.toUInt32.toInt32)), .val (.ref r_279), .unset, .unset, .unset, .unset, .unset] [(.int (fl &&& (2 : Int32)))]))
    by_cases hc281 : (fl &&& (2 : Int32)) = (0 : Int32)
    · refine own_st (fun u_ k_ => XS.ifYes X278.here hx rfl (pc0 := 41) (pc' := 48) rfl (hb hby at_41) rfl (XT.i0_eq_t hc281) (by decide) (by decide) k_) ?_
      refine own_st (fun u_ k_ => XS.iloadN X278.here hx rfl (hb hby at_48) rfl k_) ?_
      show own_Go p e below _ (T278.setTop (mkF m 49 #[.val (.int nb), .val (.int ca), .val (.int cb), .val (.int fl), .val (.int ((ca &&& (255 : Int32)).toUInt32.toUInt16.toUInt32.toInt32)), .val (.int ((cb &&& (255 : Int32)).toUInt32.toUInt16.toUInt32.toInt32)), .val (.ref r_279), .unset, .unset, .unset, .unset, .unset] [(.int fl)]))
      refine own_st (fun u_ k_ => XS.bipush X278.here hx rfl (hb hby at_49) k_) ?_
      refine own_st (fun u_ k_ => XS.iushr X278.here hx rfl (hb hby at_51) rfl k_) ?_
      show own_Go p e below _ (T278.setTop (mkF m 52 #[.val (.int nb), .val (.int ca), .val (.int cb), .val (.int fl), .val (.int ((ca &&& (255 : Int32)).toUInt32.toUInt16.toUInt32.toInt32)), .val (.int ((cb &&& (255 : Int32)).toUInt32.toUInt16.toUInt32.toInt32)), .val (.ref r_279), .unset, .unset, .unset, .unset, .unset] [(.int ((fl.toUInt32 >>> ((6 : Int32) &&& 31).toUInt32).toInt32))]))
      refine own_st (fun u_ k_ => XS.iload X278.here hx rfl (hb hby at_52) rfl k_) ?_
      refine own_st (fun u_ k_ => XS.iload X278.here hx rfl (hb hby at_54) rfl k_) ?_
      show own_Go p e below _ (T278.setTop (mkF m 56 #[.val (.int nb), .val (.int ca), .val (.int cb), .val (.int fl), .val (.int ((ca &&& (255 : Int32)).toUInt32.toUInt16.toUInt32.toInt32)), .val (.int ((cb &&& (255 : Int32)).toUInt32.toUInt16.toUInt32.toInt32)), .val (.ref r_279), .unset, .unset, .unset, .unset, .unset] [(.int ((ca &&& (255 : Int32)).toUInt32.toUInt16.toUInt32.toInt32)), (.int ((cb &&& (255 : Int32)).toUInt32.toUInt16.toUInt32.toInt32)), (.int ((fl.toUInt32 >>> ((6 : Int32) &&& 31).toUInt32).toInt32))]))
      have O283 : Old Z n0 T278.heap := O0.keep K278 all0
      have R284 : CHr Z own_EL s.vm h0 T278.vm T278.heap := R0.trans hr278
      obtain ⟨T282, v282, L282, X282, Si282, hZ282, hown282, hQ282, hr282, st282⟩ := own_callSH X278 hx hZ278 Si278 (Nat.le_refl _) (own_hEL hw) R284.1 own_sf0 (y := own_y_188) hown278 (own_w hw 0 rfl) (own_w hw 1 rfl) (own_w hw 2 rfl) (own_w hw 3 rfl) own_lm_276 (rmStr l Z a0 hw [] wcs wd hS ((fl.toUInt32 >>> ((6 : Int32) &&& 31).toUInt32).toInt32) ((cb &&& (255 : Int32)).toUInt32.toUInt16.toUInt32.toInt32) ((ca &&& (255 : Int32)).toUInt32.toUInt16.toUInt32.toInt32) T278.heap n0 O283 (own_c255 _) (own_c255n _) (own_c255n _)) rfl own_pd_277 (argsL := [(.int ((fl.toUInt32 >>> ((6 : Int32) &&& 31).toUInt32).toInt32)), (.int ((cb &&& (255 : Int32)).toUInt32.toUInt16.toUInt32.toInt32)), (.int ((ca &&& (255 : Int32)).toUInt32.toUInt16.toUInt32.toInt32))]) (rest := []) rfl rfl (g := (mkF m 56 #[.val (.int nb), .val (.int ca), .val (.int cb), .val (.int fl), .val (.int ((ca &&& (255 : Int32)).toUInt32.toUInt16.toUInt32.toInt32)), .val (.int ((cb &&& (255 : Int32)).toUInt32.toUInt16.toUInt32.toInt32)), .val (.ref r_279), .unset, .unset, .unset, .unset, .unset] [(.int ((ca &&& (255 : Int32)).toUInt32.toUInt16.toUInt32.toInt32)), (.int ((cb &&& (255 : Int32)).toUInt32.toUInt16.toUInt32.toInt32)), (.int ((fl.toUInt32 >>> ((6 : Int32) &&& 31).toUInt32).toInt32))])) rfl (by rw [hml]; rfl) rfl (hb hby at_56) (W := 0) rfl (by decide) (by decide) (by decide) (by decide)
      obtain ⟨r_285, rfl, M282, K282, F286⟩ := hQ282
      have N282 := Fr.app N278 M282
      refine own_st (fun u_ k_ => st282 u_ k_) ?_
      show own_Go p e below _ (T282.setTop (mkF m 59 #[.val (.int nb), .val (.int ca), .val (.int cb), .val (.int fl), .val (.int ((ca &&& (255 : Int32)).toUInt32.toUInt16.toUInt32.toInt32)), .val (.int ((cb &&& (255 : Int32)).toUInt32.toUInt16.toUInt32.toInt32)), .val (.ref r_279), .unset, .unset, .unset, .unset, .unset] [(.ref r_285)]))
      refine own_st (fun u_ k_ => XS.astore X282.here hx rfl (hb hby at_59) rfl rfl (l' := #[.val (.int nb), .val (.int ca), .val (.int cb), .val (.int fl), .val (.int ((ca &&& (255 : Int32)).toUInt32.toUInt16.toUInt32.toInt32)), .val (.int ((cb &&& (255 : Int32)).toUInt32.toUInt16.toUInt32.toInt32)), .val (.ref r_279), .val (.ref r_285), .unset, .unset, .unset, .unset]) rfl k_) ?_
      refine own_st (fun u_ k_ => XS.iloadN X282.here hx rfl (hb hby at_61) rfl k_) ?_
      show own_Go p e below _ (T282.setTop (mkF m 62 #[.val (.int nb), .val (.int ca), .val (.int cb), .val (.int fl), .val (.int ((ca &&& (255 : Int32)).toUInt32.toUInt16.toUInt32.toInt32)), .val (.int ((cb &&& (255 : Int32)).toUInt32.toUInt16.toUInt32.toInt32)), .val (.ref r_279), .val (.ref r_285), .unset, .unset, .unset, .unset] [(.int fl)]))
      refine own_st (fun u_ k_ => XS.iconst X282.here hx rfl (hb hby at_62) k_) ?_
      refine own_st (fun u_ k_ => XS.iand X282.here hx rfl (hb hby at_63) rfl k_) ?_
      show own_Go p e below _ (T282.setTop (mkF m 64 #[.val (.int nb), .val (.int ca), .val (.int cb), .val (.int fl), .val (.int ((ca &&& (255 : Int32)).toUInt32.toUInt16.toUInt32.toInt32)), .val (.int ((cb &&& (255 : Int32)).toUInt32.toUInt16.toUInt32.toInt32)), .val (.ref r_279), .val (.ref r_285), .unset, .unset, .unset, .unset] [(.int (fl &&& (4 : Int32)))]))
      by_cases hc287 : (fl &&& (4 : Int32)) = (0 : Int32)
      · refine own_st (fun u_ k_ => XS.ifYes X282.here hx rfl (pc0 := 64) (pc' := 71) rfl (hb hby at_64) rfl (XT.i0_eq_t hc287) (by decide) (by decide) k_) ?_
        obtain ⟨T288, h288, X288, e288, E288, A288, D288, U288, st288⟩ := newO X282 hx hZ282 hown282 (own_w hw 26 rfl) (own_w hw 27 rfl) (own_w hw 28 rfl) rfl (g := (mkF m 71 #[.val (.int nb), .val (.int ca), .val (.int cb), .val (.int fl), .val (.int ((ca &&& (255 : Int32)).toUInt32.toUInt16.toUInt32.toInt32)), .val (.int ((cb &&& (255 : Int32)).toUInt32.toUInt16.toUInt32.toInt32)), .val (.ref r_279), .val (.ref r_285), .unset, .unset, .unset, .unset] [])) rfl (hb hby at_71) (by decide) (by decide)
        obtain ⟨b288, g288⟩ : ∃ z, z = T282.heap.size := ⟨_, rfl⟩
        rw [← g288] at A288 D288 U288 st288
        have F288_modCount : Fld Z h288 b288 own_c_208 "modCount" "I" (.int (0 : Int32)) := D288 (Or.inl (own_w hw 46 rfl)) (ty := .int) own_lm_207
        have F288_elementData : Fld Z h288 b288 "java/util/ArrayList" "elementData" "[Ljava/lang/Object;" .null := D288 (Or.inl (own_w hw 49 rfl)) (ty := (.array (.object "java/lang/Object"))) own_lm_211
        refine own_st (fun u_ k_ => st288 u_ k_) ?_
        show own_Go p e below _ (T288.setTop (mkF m 74 #[.val (.int nb), .val (.int ca), .val (.int cb), .val (.int fl), .val (.int ((ca &&& (255 : Int32)).toUInt32.toUInt16.toUInt32.toInt32)), .val (.int ((cb &&& (255 : Int32)).toUInt32.toUInt16.toUInt32.toInt32)), .val (.ref r_279), .val (.ref r_285), .unset, .unset, .unset, .unset] [(.ref b288)]))
        refine own_st (fun u_ k_ => XS.dup X288.here hx rfl (hb hby at_74) rfl rfl k_) ?_
        have O290 : Old Z n0 T282.heap := O283.keep K282 all0
        have g289 : n0 ≤ b288 := Nat.le_trans (own_nl O290) (Nat.le_of_eq g288.symm)
        have O292 : Old Z n0 h288 := O290.ext E288
        obtain ⟨T291, v291, L291, X291, hQ291, st291⟩ := own_callN X288 hx hZ282 (y := own_y_222) rfl hown282 (own_w hw 29 rfl) (own_w hw 30 rfl) (own_w hw 28 rfl) (own_w hw 31 rfl) own_lm_278 (rmAL l Z a0 hw [] wcs wd hS b288 h288 n0 O292 A288 g289 F288_modCount F288_elementData) e288 own_pd_203 (a := b288) (argsL := []) (rest := [(.ref b288)]) rfl rfl (g := (mkF m 75 #[.val (.int nb), .val (.int ca), .val (.int cb), .val (.int fl), .val (.int ((ca &&& (255 : Int32)).toUInt32.toUInt16.toUInt32.toInt32)), .val (.int ((cb &&& (255 : Int32)).toUInt32.toUInt16.toUInt32.toInt32)), .val (.ref r_279), .val (.ref r_285), .unset, .unset, .unset, .unset] [(.ref b288), (.ref b288)])) rfl (by rw [hml]; rfl) rfl (hb hby at_75) (W := 1) rfl (by decide) (by decide) (by decide) (by decide)
        obtain ⟨rfl, M291, K291, F293⟩ := hQ291
        have N291 := Fr.app N282 M291
        refine own_st (fun u_ k_ => st291 u_ k_) ?_
        show own_Go p e below _ (T291.setTop (mkF m 78 #[.val (.int nb), .val (.int ca), .val (.int cb), .val (.int fl), .val (.int ((ca &&& (255 : Int32)).toUInt32.toUInt16.toUInt32.toInt32)), .val (.int ((cb &&& (255 : Int32)).toUInt32.toUInt16.toUInt32.toInt32)), .val (.ref r_279), .val (.ref r_285), .unset, .unset, .unset, .unset] [(.ref b288)]))
        refine own_st (fun u_ k_ => XS.astore X291.here hx rfl (hb hby at_78) rfl rfl (l' := #[.val (.int nb), .val (.int ca), .val (.int cb), .val (.int fl), .val (.int ((ca &&& (255 : Int32)).toUInt32.toUInt16.toUInt32.toInt32)), .val (.int ((cb &&& (255 : Int32)).toUInt32.toUInt16.toUInt32.toInt32)), .val (.ref r_279), .val (.ref r_285), .val (.ref b288), .unset, .unset, .unset]) rfl k_) ?_
        refine own_st (fun u_ k_ => XS.iloadN X291.here hx rfl (hb hby at_80) rfl k_) ?_
        show own_Go p e below _ (T291.setTop (mkF m 81 #[.val (.int nb), .val (.int ca), .val (.int cb), .val (.int fl), .val (.int ((ca &&& (255 : Int32)).toUInt32.toUInt16.toUInt32.toInt32)), .val (.int ((cb &&& (255 : Int32)).toUInt32.toUInt16.toUInt32.toInt32)), .val (.ref r_279), .val (.ref r_285), .val (.ref b288), .unset, .unset, .unset] [(.int fl)]))
        refine own_st (fun u_ k_ => XS.bipush X291.here hx rfl (hb hby at_81) k_) ?_
        refine own_st (fun u_ k_ => XS.iand X291.here hx rfl (hb hby at_83) rfl k_) ?_
        show own_Go p e below _ (T291.setTop (mkF m 84 #[.val (.int nb), .val (.int ca), .val (.int cb), .val (.int fl), .val (.int ((ca &&& (255 : Int32)).toUInt32.toUInt16.toUInt32.toInt32)), .val (.int ((cb &&& (255 : Int32)).toUInt32.toUInt16.toUInt32.toInt32)), .val (.ref r_279), .val (.ref r_285), .val (.ref b288), .unset, .unset, .unset] [(.int (fl &&& (8 : Int32)))]))
        by_cases hc294 : (fl &&& (8 : Int32)) = (0 : Int32)
        · refine own_st (fun u_ k_ => XS.ifYes X291.here hx rfl (pc0 := 84) (pc' := 91) rfl (hb hby at_84) rfl (XT.i0_eq_t hc294) (by decide) (by decide) k_) ?_
          refine own_st (fun u_ k_ => XS.iconst X291.here hx rfl (hb hby at_91) k_) ?_
          show own_Go p e below _ (T291.setTop (mkF m 92 #[.val (.int nb), .val (.int ca), .val (.int cb), .val (.int fl), .val (.int ((ca &&& (255 : Int32)).toUInt32.toUInt16.toUInt32.toInt32)), .val (.int ((cb &&& (255 : Int32)).toUInt32.toUInt16.toUInt32.toInt32)), .val (.ref r_279), .val (.ref r_285), .val (.ref b288), .unset, .unset, .unset] [(.int (0 : Int32))]))
          refine own_st (fun u_ k_ => XS.istore X291.here hx rfl (hb hby at_92) rfl (l' := #[.val (.int nb), .val (.int ca), .val (.int cb), .val (.int fl), .val (.int ((ca &&& (255 : Int32)).toUInt32.toUInt16.toUInt32.toInt32)), .val (.int ((cb &&& (255 : Int32)).toUInt32.toUInt16.toUInt32.toInt32)), .val (.ref r_279), .val (.ref r_285), .val (.ref b288), .val (.int (0 : Int32)), .unset, .unset]) rfl k_) ?_
          refine own_st (fun u_ k_ => XS.iload X291.here hx rfl (hb hby at_94) rfl k_) ?_
          show own_Go p e below _ (T291.setTop (mkF m 96 #[.val (.int nb), .val (.int ca), .val (.int cb), .val (.int fl), .val (.int ((ca &&& (255 : Int32)).toUInt32.toUInt16.toUInt32.toInt32)), .val (.int ((cb &&& (255 : Int32)).toUInt32.toUInt16.toUInt32.toInt32)), .val (.ref r_279), .val (.ref r_285), .val (.ref b288), .val (.int (0 : Int32)), .unset, .unset] [(.int (0 : Int32))]))
          refine own_st (fun u_ k_ => XS.ifYes X291.here hx rfl (pc0 := 96) (pc' := 113) rfl (hb hby at_96) rfl (XT.i0_eq_t (by decide)) (by decide) (by decide) k_) ?_
          refine own_st (fun u_ k_ => XS.aconstNull X291.here hx rfl (hb hby at_113) k_) ?_
          show own_Go p e below _ (T291.setTop (mkF m 114 #[.val (.int nb), .val (.int ca), .val (.int cb), .val (.int fl), .val (.int ((ca &&& (255 : Int32)).toUInt32.toUInt16.toUInt32.toInt32)), .val (.int ((cb &&& (255 : Int32)).toUInt32.toUInt16.toUInt32.toInt32)), .val (.ref r_279), .val (.ref r_285), .val (.ref b288), .val (.int (0 : Int32)), .unset, .unset] [.null]))
          refine own_st (fun u_ k_ => XS.astore X291.here hx rfl (hb hby at_114) rfl rfl (l' := #[.val (.int nb), .val (.int ca), .val (.int cb), .val (.int fl), .val (.int ((ca &&& (255 : Int32)).toUInt32.toUInt16.toUInt32.toInt32)), .val (.int ((cb &&& (255 : Int32)).toUInt32.toUInt16.toUInt32.toInt32)), .val (.ref r_279), .val (.ref r_285), .val (.ref b288), .val (.int (0 : Int32)), .val .null, .unset]) rfl k_) ?_
          obtain ⟨T295, h295, X295, e295, E295, A295, D295, U295, st295⟩ := newO X291 hx hZ282 hown282 (own_w hw 50 rfl) (own_w hw 51 rfl) (own_w hw 52 rfl) rfl (g := (mkF m 116 #[.val (.int nb), .val (.int ca), .val (.int cb), .val (.int fl), .val (.int ((ca &&& (255 : Int32)).toUInt32.toUInt16.toUInt32.toInt32)), .val (.int ((cb &&& (255 : Int32)).toUInt32.toUInt16.toUInt32.toInt32)), .val (.ref r_279), .val (.ref r_285), .val (.ref b288), .val (.int (0 : Int32)), .val .null, .unset] [])) rfl (hb hby at_116) (by decide) (by decide)
          obtain ⟨b295, g295⟩ : ∃ z, z = T291.heap.size := ⟨_, rfl⟩
          rw [← g295] at A295 D295 U295 st295
          have F295_number : Fld Z h295 b295 own_c_230 "number" "I" (.int (0 : Int32)) := D295 (Or.inr (own_w hw 63 rfl)) (ty := .int) own_lm_207
          have F295_id : Fld Z h295 b295 own_c_230 "id" "Ljava/lang/String;" .null := D295 (Or.inr (own_w hw 65 rfl)) (ty := (.object "java/lang/String")) own_lm_235
          have F295_data : Fld Z h295 b295 own_c_230 "data" "Ljava/lang/String;" .null := D295 (Or.inr (own_w hw 67 rfl)) (ty := (.object "java/lang/String")) own_lm_235
          have F295_manifestations : Fld Z h295 b295 own_c_230 "manifestations" "Ljava/util/List;" .null := D295 (Or.inr (own_w hw 69 rfl)) (ty := (.object "java/util/List")) own_lm_248
          have F295_refusal : Fld Z h295 b295 own_c_230 "refusal" "Ljava/lang/String;" .null := D295 (Or.inr (own_w hw 71 rfl)) (ty := (.object "java/lang/String")) own_lm_235
          refine own_st (fun u_ k_ => st295 u_ k_) ?_
          show own_Go p e below _ (T295.setTop (mkF m 119 #[.val (.int nb), .val (.int ca), .val (.int cb), .val (.int fl), .val (.int ((ca &&& (255 : Int32)).toUInt32.toUInt16.toUInt32.toInt32)), .val (.int ((cb &&& (255 : Int32)).toUInt32.toUInt16.toUInt32.toInt32)), .val (.ref r_279), .val (.ref r_285), .val (.ref b288), .val (.int (0 : Int32)), .val .null, .unset] [(.ref b295)]))
          refine own_st (fun u_ k_ => XS.dup X295.here hx rfl (hb hby at_119) rfl rfl k_) ?_
          refine own_st (fun u_ k_ => XS.iloadN X295.here hx rfl (hb hby at_120) rfl k_) ?_
          show own_Go p e below _ (T295.setTop (mkF m 121 #[.val (.int nb), .val (.int ca), .val (.int cb), .val (.int fl), .val (.int ((ca &&& (255 : Int32)).toUInt32.toUInt16.toUInt32.toInt32)), .val (.int ((cb &&& (255 : Int32)).toUInt32.toUInt16.toUInt32.toInt32)), .val (.ref r_279), .val (.ref r_285), .val (.ref b288), .val (.int (0 : Int32)), .val .null, .unset] [(.int nb), (.ref b295), (.ref b295)]))
          refine own_st (fun u_ k_ => XS.aload X295.here hx rfl (hb hby at_121) rfl rfl k_) ?_
          refine own_st (fun u_ k_ => XS.aload X295.here hx rfl (hb hby at_123) rfl rfl k_) ?_
          show own_Go p e below _ (T295.setTop (mkF m 125 #[.val (.int nb), .val (.int ca), .val (.int cb), .val (.int fl), .val (.int ((ca &&& (255 : Int32)).toUInt32.toUInt16.toUInt32.toInt32)), .val (.int ((cb &&& (255 : Int32)).toUInt32.toUInt16.toUInt32.toInt32)), .val (.ref r_279), .val (.ref r_285), .val (.ref b288), .val (.int (0 : Int32)), .val .null, .unset] [(.ref r_285), (.ref r_279), (.int nb), (.ref b295), (.ref b295)]))
          refine own_st (fun u_ k_ => XS.aload X295.here hx rfl (hb hby at_125) rfl rfl k_) ?_
          refine own_st (fun u_ k_ => XS.aload X295.here hx rfl (hb hby at_127) rfl rfl k_) ?_
          show own_Go p e below _ (T295.setTop (mkF m 129 #[.val (.int nb), .val (.int ca), .val (.int cb), .val (.int fl), .val (.int ((ca &&& (255 : Int32)).toUInt32.toUInt16.toUInt32.toInt32)), .val (.int ((cb &&& (255 : Int32)).toUInt32.toUInt16.toUInt32.toInt32)), .val (.ref r_279), .val (.ref r_285), .val (.ref b288), .val (.int (0 : Int32)), .val .null, .unset] [.null, (.ref b288), (.ref r_285), (.ref r_279), (.int nb), (.ref b295), (.ref b295)]))
          have O297 : Old Z n0 T291.heap := O292.keep K291 (allS g289 all0)
          have g296 : n0 ≤ b295 := Nat.le_trans (own_nl O297) (Nat.le_of_eq g295.symm)
          have O299 : Old Z n0 h295 := O297.ext E295
          obtain ⟨T298, v298, L298, X298, hQ298, st298⟩ := own_callN X295 hx hZ282 (y := own_y_266) rfl hown282 (own_w hw 53 rfl) (own_w hw 54 rfl) (own_w hw 52 rfl) (own_w hw 55 rfl) own_lm_279 (rmDL l Z a0 hw [] wcs wd hS b295 nb ((.ref r_279) : Value) ((.ref r_285) : Value) ((.ref b288) : Value) (.null : Value) h295 n0 O299 A295 g296 rfl rfl rfl rfl F295_number F295_id F295_data F295_manifestations F295_refusal) e295 own_pd_280 (a := b295) (argsL := [(.int nb), (.ref r_279), (.ref r_285), (.ref b288), .null]) (rest := [(.ref b295)]) rfl rfl (g := (mkF m 129 #[.val (.int nb), .val (.int ca), .val (.int cb), .val (.int fl), .val (.int ((ca &&& (255 : Int32)).toUInt32.toUInt16.toUInt32.toInt32)), .val (.int ((cb &&& (255 : Int32)).toUInt32.toUInt16.toUInt32.toInt32)), .val (.ref r_279), .val (.ref r_285), .val (.ref b288), .val (.int (0 : Int32)), .val .null, .unset] [.null, (.ref b288), (.ref r_285), (.ref r_279), (.int nb), (.ref b295), (.ref b295)])) rfl (by rw [hml]; rfl) rfl (hb hby at_129) (W := 1) rfl (by decide) (by decide) (by decide) (by decide)
          obtain ⟨rfl, M298, K298, F300, F301⟩ := hQ298
          have N298 := Fr.app N291 M298
          refine own_st (fun u_ k_ => st298 u_ k_) ?_
          show own_Go p e below _ (T298.setTop (mkF m 132 #[.val (.int nb), .val (.int ca), .val (.int cb), .val (.int fl), .val (.int ((ca &&& (255 : Int32)).toUInt32.toUInt16.toUInt32.toInt32)), .val (.int ((cb &&& (255 : Int32)).toUInt32.toUInt16.toUInt32.toInt32)), .val (.ref r_279), .val (.ref r_285), .val (.ref b288), .val (.int (0 : Int32)), .val .null, .unset] [(.ref b295)]))
          refine own_st (fun u_ k_ => XS.astore X298.here hx rfl (hb hby at_132) rfl rfl (l' := #[.val (.int nb), .val (.int ca), .val (.int cb), .val (.int fl), .val (.int ((ca &&& (255 : Int32)).toUInt32.toUInt16.toUInt32.toInt32)), .val (.int ((cb &&& (255 : Int32)).toUInt32.toUInt16.toUInt32.toInt32)), .val (.ref r_279), .val (.ref r_285), .val (.ref b288), .val (.int (0 : Int32)), .val .null, .val (.ref b295)]) rfl k_) ?_
          refine own_st (fun u_ k_ => XS.aload X298.here hx rfl (hb hby at_134) rfl rfl k_) ?_
          show own_Go p e below _ (T298.setTop (mkF m 136 #[.val (.int nb), .val (.int ca), .val (.int cb), .val (.int fl), .val (.int ((ca &&& (255 : Int32)).toUInt32.toUInt16.toUInt32.toInt32)), .val (.int ((cb &&& (255 : Int32)).toUInt32.toUInt16.toUInt32.toInt32)), .val (.ref r_279), .val (.ref r_285), .val (.ref b288), .val (.int (0 : Int32)), .val .null, .val (.ref b295)] [(.ref b295)]))
          have O303 : Old Z n0 T298.heap := O299.keep K298 (allS g296 all0)
          obtain ⟨T302, v302, L302, X302, hQ302, st302⟩ := own_callV X298 hx hZ282 (y := own_y_273) (z := own_y_273) hown282 (own_w hw 72 rfl) (own_w hw 73 rfl) (notFace_of_selects (args := #[]) (mvT hZ282 (own_w hw 75 rfl))) (own_w hw 75 rfl) (own_w hw 74 rfl) (own_w hw 52 rfl) (own_w hw 76 rfl) own_lm_279 (rmIN l Z a0 hw [] wcs wd hS b295 T298.heap n0 O303 F301) rfl F300 own_pd_281 (argsL := []) (rest := []) rfl rfl (g := (mkF m 136 #[.val (.int nb), .val (.int ca), .val (.int cb), .val (.int fl), .val (.int ((ca &&& (255 : Int32)).toUInt32.toUInt16.toUInt32.toInt32)), .val (.int ((cb &&& (255 : Int32)).toUInt32.toUInt16.toUInt32.toInt32)), .val (.ref r_279), .val (.ref r_285), .val (.ref b288), .val (.int (0 : Int32)), .val .null, .val (.ref b295)] [(.ref b295)])) rfl (by rw [hml]; rfl) rfl (hb hby at_136) (W := 0) rfl (by decide) (by decide) (by decide) (by decide)
          obtain ⟨rfl, M302, e302⟩ := hQ302
          have N302 := Fr.app N298 M302
          refine own_st (fun u_ k_ => st302 u_ k_) ?_
          show own_Go p e below _ (T302.setTop (mkF m 139 #[.val (.int nb), .val (.int ca), .val (.int cb), .val (.int fl), .val (.int ((ca &&& (255 : Int32)).toUInt32.toUInt16.toUInt32.toInt32)), .val (.int ((cb &&& (255 : Int32)).toUInt32.toUInt16.toUInt32.toInt32)), .val (.ref r_279), .val (.ref r_285), .val (.ref b288), .val (.int (0 : Int32)), .val .null, .val (.ref b295)] [(.int (0 : Int32))]))
          refine own_st (fun u_ k_ => XS.iload X302.here hx rfl (hb hby at_139) rfl k_) ?_
          refine own_st (fun u_ k_ => XS.icmpNo X302.here hx rfl (hb hby at_141) rfl (XT.ii_ne_f (by decide)) k_) ?_
          show own_Go p e below _ (T302.setTop (mkF m 144 #[.val (.int nb), .val (.int ca), .val (.int cb), .val (.int fl), .val (.int ((ca &&& (255 : Int32)).toUInt32.toUInt16.toUInt32.toInt32)), .val (.int ((cb &&& (255 : Int32)).toUInt32.toUInt16.toUInt32.toInt32)), .val (.ref r_279), .val (.ref r_285), .val (.ref b288), .val (.int (0 : Int32)), .val .null, .val (.ref b295)] []))
          refine own_st (fun u_ k_ => XS.iconst X302.here hx rfl (hb hby at_144) k_) ?_
          refine own_st (fun u_ k_ => XS.goto X302.here hx rfl (pc0 := 145) (pc' := 149) rfl (hb hby at_145) (by decide) (by decide) k_) ?_
          show own_Go p e below _ (T302.setTop (mkF m 149 #[.val (.int nb), .val (.int ca), .val (.int cb), .val (.int fl), .val (.int ((ca &&& (255 : Int32)).toUInt32.toUInt16.toUInt32.toInt32)), .val (.int ((cb &&& (255 : Int32)).toUInt32.toUInt16.toUInt32.toInt32)), .val (.ref r_279), .val (.ref r_285), .val (.ref b288), .val (.int (0 : Int32)), .val .null, .val (.ref b295)] [(.int (1 : Int32))]))
          have K304 : Keep h0 T278.heap [] := (Keep.refl h0 []).trans K278 all0
          have K305 : Keep h0 T282.heap [] := K304.trans K282 all0
          have K306 : Keep h0 h288 [] := K305.ext E288
          have z308 : h0.size ≤ b288 := Nat.le_trans (Nat.le_trans K278.1 K282.1) (Nat.le_of_eq g288.symm)
          have K307 : Keep h0 T291.heap [] := K306.trans K291 (allS (Or.inr z308) all0)
          have K309 : Keep h0 h295 [] := K307.ext E295
          have z311 : h0.size ≤ b295 := Nat.le_trans (Nat.le_trans (Nat.le_trans (Nat.le_trans K278.1 K282.1) E288.1) K291.1) (Nat.le_of_eq g295.symm)
          have K310 : Keep h0 T298.heap [] := K309.trans K298 (allS (Or.inr z311) all0)
          have R312 : CHr Z own_EL s.vm h0 T282.vm T282.heap := R284.trans hr282
          have R313 : CHr Z own_EL s.vm h0 T282.vm h288 := R312.trans (CHr.ext E288 R312.1)
          have sf_315 : Safe Z own_EL T282.vm h288 b288 := Safe.exa hZ282.alike A288 own_lm_282 own_lm_283
          have R314 : CHr Z own_EL s.vm h0 T282.vm T291.heap := R313.trans (CHr.keep K291 (sfS sf_315 sf0) R313.1)
          have R316 : CHr Z own_EL s.vm h0 T282.vm h295 := R314.trans (CHr.ext E295 R314.1)
          have sf_318 : Safe Z own_EL T282.vm h295 b295 := Safe.exa hZ282.alike A295 own_lm_284 own_lm_285
          have R317 : CHr Z own_EL s.vm h0 T282.vm T298.heap := R316.trans (CHr.keep K298 (sfS sf_318 sf0) R316.1)
          exact own_retXH X302 Si282 (Nat.le_trans (Nat.le_refl _) (Nat.le_trans (Nat.le_trans (Nat.le_trans E288.1 K291.1) E295.1) K298.1)) e302 hZ282 (own_hEL hw) hs0 R317 hx hlk hret rfl (Or.inl ⟨rfl, by simp, _, rfl⟩) (hb hby at_149) (by decide) (by decide) (show Qrm0 Z wcs wd nb ca cb fl h0 n0 (some (.int (1 : Int32))) T302.heap _ from (by rw [e302]; exact ⟨rfl, N302, K310⟩))
        · refine own_st (fun u_ k_ => XS.ifNo X291.here hx rfl (hb hby at_84) rfl (XT.i0_eq_f hc294) k_) ?_
          refine own_st (fun u_ k_ => XS.iconst X291.here hx rfl (hb hby at_87) k_) ?_
          show own_Go p e below _ (T291.setTop (mkF m 88 #[.val (.int nb), .val (.int ca), .val (.int cb), .val (.int fl), .val (.int ((ca &&& (255 : Int32)).toUInt32.toUInt16.toUInt32.toInt32)), .val (.int ((cb &&& (255 : Int32)).toUInt32.toUInt16.toUInt32.toInt32)), .val (.ref r_279), .val (.ref r_285), .val (.ref b288), .unset, .unset, .unset] [(.int (1 : Int32))]))
          refine own_st (fun u_ k_ => XS.goto X291.here hx rfl (pc0 := 88) (pc' := 92) rfl (hb hby at_88) (by decide) (by decide) k_) ?_
          refine own_st (fun u_ k_ => XS.istore X291.here hx rfl (hb hby at_92) rfl (l' := #[.val (.int nb), .val (.int ca), .val (.int cb), .val (.int fl), .val (.int ((ca &&& (255 : Int32)).toUInt32.toUInt16.toUInt32.toInt32)), .val (.int ((cb &&& (255 : Int32)).toUInt32.toUInt16.toUInt32.toInt32)), .val (.ref r_279), .val (.ref r_285), .val (.ref b288), .val (.int (1 : Int32)), .unset, .unset]) rfl k_) ?_
          show own_Go p e below _ (T291.setTop (mkF m 94 #[.val (.int nb), .val (.int ca), .val (.int cb), .val (.int fl), .val (.int ((ca &&& (255 : Int32)).toUInt32.toUInt16.toUInt32.toInt32)), .val (.int ((cb &&& (255 : Int32)).toUInt32.toUInt16.toUInt32.toInt32)), .val (.ref r_279), .val (.ref r_285), .val (.ref b288), .val (.int (1 : Int32)), .unset, .unset] []))
          refine own_st (fun u_ k_ => XS.iload X291.here hx rfl (hb hby at_94) rfl k_) ?_
          refine own_st (fun u_ k_ => XS.ifNo X291.here hx rfl (hb hby at_96) rfl (XT.i0_eq_f (by decide)) k_) ?_
          show own_Go p e below _ (T291.setTop (mkF m 99 #[.val (.int nb), .val (.int ca), .val (.int cb), .val (.int fl), .val (.int ((ca &&& (255 : Int32)).toUInt32.toUInt16.toUInt32.toInt32)), .val (.int ((cb &&& (255 : Int32)).toUInt32.toUInt16.toUInt32.toInt32)), .val (.ref r_279), .val (.ref r_285), .val (.ref b288), .val (.int (1 : Int32)), .unset, .unset] []))
          refine own_st (fun u_ k_ => XS.iloadN X291.here hx rfl (hb hby at_99) rfl k_) ?_
          refine own_st (fun u_ k_ => XS.bipush X291.here hx rfl (hb hby at_100) k_) ?_
          show own_Go p e below _ (T291.setTop (mkF m 102 #[.val (.int nb), .val (.int ca), .val (.int cb), .val (.int fl), .val (.int ((ca &&& (255 : Int32)).toUInt32.toUInt16.toUInt32.toInt32)), .val (.int ((cb &&& (255 : Int32)).toUInt32.toUInt16.toUInt32.toInt32)), .val (.ref r_279), .val (.ref r_285), .val (.ref b288), .val (.int (1 : Int32)), .unset, .unset] [(.int (8 : Int32)), (.int fl)]))
          refine own_st (fun u_ k_ => XS.iushr X291.here hx rfl (hb hby at_102) rfl k_) ?_
          refine own_st (fun u_ k_ => XS.iload X291.here hx rfl (hb hby at_103) rfl k_) ?_
          show own_Go p e below _ (T291.setTop (mkF m 105 #[.val (.int nb), .val (.int ca), .val (.int cb), .val (.int fl), .val (.int ((ca &&& (255 : Int32)).toUInt32.toUInt16.toUInt32.toInt32)), .val (.int ((cb &&& (255 : Int32)).toUInt32.toUInt16.toUInt32.toInt32)), .val (.ref r_279), .val (.ref r_285), .val (.ref b288), .val (.int (1 : Int32)), .unset, .unset] [(.int ((ca &&& (255 : Int32)).toUInt32.toUInt16.toUInt32.toInt32)), (.int ((fl.toUInt32 >>> ((8 : Int32) &&& 31).toUInt32).toInt32))]))
          refine own_st (fun u_ k_ => XS.iload X291.here hx rfl (hb hby at_105) rfl k_) ?_
          have O320 : Old Z n0 T291.heap := O292.keep K291 (allS g289 all0)
          have R321 : CHr Z own_EL s.vm h0 T282.vm T282.heap := R284.trans hr282
          have R322 : CHr Z own_EL s.vm h0 T282.vm h288 := R321.trans (CHr.ext E288 R321.1)
          have sf_324 : Safe Z own_EL T282.vm h288 b288 := Safe.exa hZ282.alike A288 own_lm_282 own_lm_283
          have R323 : CHr Z own_EL s.vm h0 T282.vm T291.heap := R322.trans (CHr.keep K291 (sfS sf_324 sf0) R322.1)
          obtain ⟨T319, v319, L319, X319, Si319, hZ319, hown319, hQ319, hr319, st319⟩ := own_callSH X291 hx hZ282 Si282 (Nat.le_trans (Nat.le_refl _) (Nat.le_trans E288.1 K291.1)) (own_hEL hw) R323.1 own_sf0 (y := own_y_188) hown282 (own_w hw 0 rfl) (own_w hw 1 rfl) (own_w hw 2 rfl) (own_w hw 3 rfl) own_lm_276 (rmStr l Z a0 hw [] wcs wd hS ((fl.toUInt32 >>> ((8 : Int32) &&& 31).toUInt32).toInt32) ((ca &&& (255 : Int32)).toUInt32.toUInt16.toUInt32.toInt32) ((cb &&& (255 : Int32)).toUInt32.toUInt16.toUInt32.toInt32) T291.heap n0 O320 (own_c255 _) (own_c255n _) (own_c255n _)) rfl own_pd_277 (argsL := [(.int ((fl.toUInt32 >>> ((8 : Int32) &&& 31).toUInt32).toInt32)), (.int ((ca &&& (255 : Int32)).toUInt32.toUInt16.toUInt32.toInt32)), (.int ((cb &&& (255 : Int32)).toUInt32.toUInt16.toUInt32.toInt32))]) (rest := []) rfl rfl (g := (mkF m 107 #[.val (.int nb), .val (.int ca), .val (.int cb), .val (.int fl), .val (.int ((ca &&& (255 : Int32)).toUInt32.toUInt16.toUInt32.toInt32)), .val (.int ((cb &&& (255 : Int32)).toUInt32.toUInt16.toUInt32.toInt32)), .val (.ref r_279), .val (.ref r_285), .val (.ref b288), .val (.int (1 : Int32)), .unset, .unset] [(.int ((cb &&& (255 : Int32)).toUInt32.toUInt16.toUInt32.toInt32)), (.int ((ca &&& (255 : Int32)).toUInt32.toUInt16.toUInt32.toInt32)), (.int ((fl.toUInt32 >>> ((8 : Int32) &&& 31).toUInt32).toInt32))])) rfl (by rw [hml]; rfl) rfl (hb hby at_107) (W := 0) rfl (by decide) (by decide) (by decide) (by decide)
          obtain ⟨r_325, rfl, M319, K319, F326⟩ := hQ319
          have N319 := Fr.app N291 M319
          refine own_st (fun u_ k_ => st319 u_ k_) ?_
          show own_Go p e below _ (T319.setTop (mkF m 110 #[.val (.int nb), .val (.int ca), .val (.int cb), .val (.int fl), .val (.int ((ca &&& (255 : Int32)).toUInt32.toUInt16.toUInt32.toInt32)), .val (.int ((cb &&& (255 : Int32)).toUInt32.toUInt16.toUInt32.toInt32)), .val (.ref r_279), .val (.ref r_285), .val (.ref b288), .val (.int (1 : Int32)), .unset, .unset] [(.ref r_325)]))
          refine own_st (fun u_ k_ => XS.goto X319.here hx rfl (pc0 := 110) (pc' := 114) rfl (hb hby at_110) (by decide) (by decide) k_) ?_
          refine own_st (fun u_ k_ => XS.astore X319.here hx rfl (hb hby at_114) rfl rfl (l' := #[.val (.int nb), .val (.int ca), .val (.int cb), .val (.int fl), .val (.int ((ca &&& (255 : Int32)).toUInt32.toUInt16.toUInt32.toInt32)), .val (.int ((cb &&& (255 : Int32)).toUInt32.toUInt16.toUInt32.toInt32)), .val (.ref r_279), .val (.ref r_285), .val (.ref b288), .val (.int (1 : Int32)), .val (.ref r_325), .unset]) rfl k_) ?_
          show own_Go p e below _ (T319.setTop (mkF m 116 #[.val (.int nb), .val (.int ca), .val (.int cb), .val (.int fl), .val (.int ((ca &&& (255 : Int32)).toUInt32.toUInt16.toUInt32.toInt32)), .val (.int ((cb &&& (255 : Int32)).toUInt32.toUInt16.toUInt32.toInt32)), .val (.ref r_279), .val (.ref r_285), .val (.ref b288), .val (.int (1 : Int32)), .val (.ref r_325), .unset] []))
          obtain ⟨T327, h327, X327, e327, E327, A327, D327, U327, st327⟩ := newO X319 hx hZ319 hown319 (own_w hw 50 rfl) (own_w hw 51 rfl) (own_w hw 52 rfl) rfl (g := (mkF m 116 #[.val (.int nb), .val (.int ca), .val (.int cb), .val (.int fl), .val (.int ((ca &&& (255 : Int32)).toUInt32.toUInt16.toUInt32.toInt32)), .val (.int ((cb &&& (255 : Int32)).toUInt32.toUInt16.toUInt32.toInt32)), .val (.ref r_279), .val (.ref r_285), .val (.ref b288), .val (.int (1 : Int32)), .val (.ref r_325), .unset] [])) rfl (hb hby at_116) (by decide) (by decide)
          obtain ⟨b327, g327⟩ : ∃ z, z = T319.heap.size := ⟨_, rfl⟩
          rw [← g327] at A327 D327 U327 st327
          have F327_number : Fld Z h327 b327 own_c_230 "number" "I" (.int (0 : Int32)) := D327 (Or.inr (own_w hw 63 rfl)) (ty := .int) own_lm_207
          have F327_id : Fld Z h327 b327 own_c_230 "id" "Ljava/lang/String;" .null := D327 (Or.inr (own_w hw 65 rfl)) (ty := (.object "java/lang/String")) own_lm_235
          have F327_data : Fld Z h327 b327 own_c_230 "data" "Ljava/lang/String;" .null := D327 (Or.inr (own_w hw 67 rfl)) (ty := (.object "java/lang/String")) own_lm_235
          have F327_manifestations : Fld Z h327 b327 own_c_230 "manifestations" "Ljava/util/List;" .null := D327 (Or.inr (own_w hw 69 rfl)) (ty := (.object "java/util/List")) own_lm_248
          have F327_refusal : Fld Z h327 b327 own_c_230 "refusal" "Ljava/lang/String;" .null := D327 (Or.inr (own_w hw 71 rfl)) (ty := (.object "java/lang/String")) own_lm_235
          refine own_st (fun u_ k_ => st327 u_ k_) ?_
          show own_Go p e below _ (T327.setTop (mkF m 119 #[.val (.int nb), .val (.int ca), .val (.int cb), .val (.int fl), .val (.int ((ca &&& (255 : Int32)).toUInt32.toUInt16.toUInt32.toInt32)), .val (.int ((cb &&& (255 : Int32)).toUInt32.toUInt16.toUInt32.toInt32)), .val (.ref r_279), .val (.ref r_285), .val (.ref b288), .val (.int (1 : Int32)), .val (.ref r_325), .unset] [(.ref b327)]))
          refine own_st (fun u_ k_ => XS.dup X327.here hx rfl (hb hby at_119) rfl rfl k_) ?_
          refine own_st (fun u_ k_ => XS.iloadN X327.here hx rfl (hb hby at_120) rfl k_) ?_
          show own_Go p e below _ (T327.setTop (mkF m 121 #[.val (.int nb), .val (.int ca), .val (.int cb), .val (.int fl), .val (.int ((ca &&& (255 : Int32)).toUInt32.toUInt16.toUInt32.toInt32)), .val (.int ((cb &&& (255 : Int32)).toUInt32.toUInt16.toUInt32.toInt32)), .val (.ref r_279), .val (.ref r_285), .val (.ref b288), .val (.int (1 : Int32)), .val (.ref r_325), .unset] [(.int nb), (.ref b327), (.ref b327)]))
          refine own_st (fun u_ k_ => XS.aload X327.here hx rfl (hb hby at_121) rfl rfl k_) ?_
          refine own_st (fun u_ k_ => XS.aload X327.here hx rfl (hb hby at_123) rfl rfl k_) ?_
          show own_Go p e below _ (T327.setTop (mkF m 125 #[.val (.int nb), .val (.int ca), .val (.int cb), .val (.int fl), .val (.int ((ca &&& (255 : Int32)).toUInt32.toUInt16.toUInt32.toInt32)), .val (.int ((cb &&& (255 : Int32)).toUInt32.toUInt16.toUInt32.toInt32)), .val (.ref r_279), .val (.ref r_285), .val (.ref b288), .val (.int (1 : Int32)), .val (.ref r_325), .unset] [(.ref r_285), (.ref r_279), (.int nb), (.ref b327), (.ref b327)]))
          refine own_st (fun u_ k_ => XS.aload X327.here hx rfl (hb hby at_125) rfl rfl k_) ?_
          refine own_st (fun u_ k_ => XS.aload X327.here hx rfl (hb hby at_127) rfl rfl k_) ?_
          show own_Go p e below _ (T327.setTop (mkF m 129 #[.val (.int nb), .val (.int ca), .val (.int cb), .val (.int fl), .val (.int ((ca &&& (255 : Int32)).toUInt32.toUInt16.toUInt32.toInt32)), .val (.int ((cb &&& (255 : Int32)).toUInt32.toUInt16.toUInt32.toInt32)), .val (.ref r_279), .val (.ref r_285), .val (.ref b288), .val (.int (1 : Int32)), .val (.ref r_325), .unset] [(.ref r_325), (.ref b288), (.ref r_285), (.ref r_279), (.int nb), (.ref b327), (.ref b327)]))
          have O329 : Old Z n0 T319.heap := O320.keep K319 all0
          have g328 : n0 ≤ b327 := Nat.le_trans (own_nl O329) (Nat.le_of_eq g327.symm)
          have O331 : Old Z n0 h327 := O329.ext E327
          obtain ⟨T330, v330, L330, X330, hQ330, st330⟩ := own_callN X327 hx hZ319 (y := own_y_266) rfl hown319 (own_w hw 53 rfl) (own_w hw 54 rfl) (own_w hw 52 rfl) (own_w hw 55 rfl) own_lm_279 (rmDL l Z a0 hw [] wcs wd hS b327 nb ((.ref r_279) : Value) ((.ref r_285) : Value) ((.ref b288) : Value) ((.ref r_325) : Value) h327 n0 O331 A327 g328 rfl rfl rfl rfl F327_number F327_id F327_data F327_manifestations F327_refusal) e327 own_pd_280 (a := b327) (argsL := [(.int nb), (.ref r_279), (.ref r_285), (.ref b288), (.ref r_325)]) (rest := [(.ref b327)]) rfl rfl (g := (mkF m 129 #[.val (.int nb), .val (.int ca), .val (.int cb), .val (.int fl), .val (.int ((ca &&& (255 : Int32)).toUInt32.toUInt16.toUInt32.toInt32)), .val (.int ((cb &&& (255 : Int32)).toUInt32.toUInt16.toUInt32.toInt32)), .val (.ref r_279), .val (.ref r_285), .val (.ref b288), .val (.int (1 : Int32)), .val (.ref r_325), .unset] [(.ref r_325), (.ref b288), (.ref r_285), (.ref r_279), (.int nb), (.ref b327), (.ref b327)])) rfl (by rw [hml]; rfl) rfl (hb hby at_129) (W := 1) rfl (by decide) (by decide) (by decide) (by decide)
          obtain ⟨rfl, M330, K330, F332, F333⟩ := hQ330
          have N330 := Fr.app N319 M330
          refine own_st (fun u_ k_ => st330 u_ k_) ?_
          show own_Go p e below _ (T330.setTop (mkF m 132 #[.val (.int nb), .val (.int ca), .val (.int cb), .val (.int fl), .val (.int ((ca &&& (255 : Int32)).toUInt32.toUInt16.toUInt32.toInt32)), .val (.int ((cb &&& (255 : Int32)).toUInt32.toUInt16.toUInt32.toInt32)), .val (.ref r_279), .val (.ref r_285), .val (.ref b288), .val (.int (1 : Int32)), .val (.ref r_325), .unset] [(.ref b327)]))
          refine own_st (fun u_ k_ => XS.astore X330.here hx rfl (hb hby at_132) rfl rfl (l' := #[.val (.int nb), .val (.int ca), .val (.int cb), .val (.int fl), .val (.int ((ca &&& (255 : Int32)).toUInt32.toUInt16.toUInt32.toInt32)), .val (.int ((cb &&& (255 : Int32)).toUInt32.toUInt16.toUInt32.toInt32)), .val (.ref r_279), .val (.ref r_285), .val (.ref b288), .val (.int (1 : Int32)), .val (.ref r_325), .val (.ref b327)]) rfl k_) ?_
          refine own_st (fun u_ k_ => XS.aload X330.here hx rfl (hb hby at_134) rfl rfl k_) ?_
          show own_Go p e below _ (T330.setTop (mkF m 136 #[.val (.int nb), .val (.int ca), .val (.int cb), .val (.int fl), .val (.int ((ca &&& (255 : Int32)).toUInt32.toUInt16.toUInt32.toInt32)), .val (.int ((cb &&& (255 : Int32)).toUInt32.toUInt16.toUInt32.toInt32)), .val (.ref r_279), .val (.ref r_285), .val (.ref b288), .val (.int (1 : Int32)), .val (.ref r_325), .val (.ref b327)] [(.ref b327)]))
          have O335 : Old Z n0 T330.heap := O331.keep K330 (allS g328 all0)
          obtain ⟨T334, v334, L334, X334, hQ334, st334⟩ := own_callV X330 hx hZ319 (y := own_y_273) (z := own_y_273) hown319 (own_w hw 72 rfl) (own_w hw 73 rfl) (notFace_of_selects (args := #[]) (mvT hZ319 (own_w hw 75 rfl))) (own_w hw 75 rfl) (own_w hw 74 rfl) (own_w hw 52 rfl) (own_w hw 76 rfl) own_lm_279 (rmIR l Z a0 hw [] wcs wd hS b327 r_325 T330.heap n0 O335 F333) rfl F332 own_pd_281 (argsL := []) (rest := []) rfl rfl (g := (mkF m 136 #[.val (.int nb), .val (.int ca), .val (.int cb), .val (.int fl), .val (.int ((ca &&& (255 : Int32)).toUInt32.toUInt16.toUInt32.toInt32)), .val (.int ((cb &&& (255 : Int32)).toUInt32.toUInt16.toUInt32.toInt32)), .val (.ref r_279), .val (.ref r_285), .val (.ref b288), .val (.int (1 : Int32)), .val (.ref r_325), .val (.ref b327)] [(.ref b327)])) rfl (by rw [hml]; rfl) rfl (hb hby at_136) (W := 0) rfl (by decide) (by decide) (by decide) (by decide)
          obtain ⟨rfl, M334, e334⟩ := hQ334
          have N334 := Fr.app N330 M334
          refine own_st (fun u_ k_ => st334 u_ k_) ?_
          show own_Go p e below _ (T334.setTop (mkF m 139 #[.val (.int nb), .val (.int ca), .val (.int cb), .val (.int fl), .val (.int ((ca &&& (255 : Int32)).toUInt32.toUInt16.toUInt32.toInt32)), .val (.int ((cb &&& (255 : Int32)).toUInt32.toUInt16.toUInt32.toInt32)), .val (.ref r_279), .val (.ref r_285), .val (.ref b288), .val (.int (1 : Int32)), .val (.ref r_325), .val (.ref b327)] [(.int (1 : Int32))]))
          refine own_st (fun u_ k_ => XS.iload X334.here hx rfl (hb hby at_139) rfl k_) ?_
          refine own_st (fun u_ k_ => XS.icmpNo X334.here hx rfl (hb hby at_141) rfl (XT.ii_ne_f (by decide)) k_) ?_
          show own_Go p e below _ (T334.setTop (mkF m 144 #[.val (.int nb), .val (.int ca), .val (.int cb), .val (.int fl), .val (.int ((ca &&& (255 : Int32)).toUInt32.toUInt16.toUInt32.toInt32)), .val (.int ((cb &&& (255 : Int32)).toUInt32.toUInt16.toUInt32.toInt32)), .val (.ref r_279), .val (.ref r_285), .val (.ref b288), .val (.int (1 : Int32)), .val (.ref r_325), .val (.ref b327)] []))
          refine own_st (fun u_ k_ => XS.iconst X334.here hx rfl (hb hby at_144) k_) ?_
          refine own_st (fun u_ k_ => XS.goto X334.here hx rfl (pc0 := 145) (pc' := 149) rfl (hb hby at_145) (by decide) (by decide) k_) ?_
          show own_Go p e below _ (T334.setTop (mkF m 149 #[.val (.int nb), .val (.int ca), .val (.int cb), .val (.int fl), .val (.int ((ca &&& (255 : Int32)).toUInt32.toUInt16.toUInt32.toInt32)), .val (.int ((cb &&& (255 : Int32)).toUInt32.toUInt16.toUInt32.toInt32)), .val (.ref r_279), .val (.ref r_285), .val (.ref b288), .val (.int (1 : Int32)), .val (.ref r_325), .val (.ref b327)] [(.int (1 : Int32))]))
          have K336 : Keep h0 T278.heap [] := (Keep.refl h0 []).trans K278 all0
          have K337 : Keep h0 T282.heap [] := K336.trans K282 all0
          have K338 : Keep h0 h288 [] := K337.ext E288
          have z340 : h0.size ≤ b288 := Nat.le_trans (Nat.le_trans K278.1 K282.1) (Nat.le_of_eq g288.symm)
          have K339 : Keep h0 T291.heap [] := K338.trans K291 (allS (Or.inr z340) all0)
          have K341 : Keep h0 T319.heap [] := K339.trans K319 all0
          have K342 : Keep h0 h327 [] := K341.ext E327
          have z344 : h0.size ≤ b327 := Nat.le_trans (Nat.le_trans (Nat.le_trans (Nat.le_trans (Nat.le_trans K278.1 K282.1) E288.1) K291.1) K319.1) (Nat.le_of_eq g327.symm)
          have K343 : Keep h0 T330.heap [] := K342.trans K330 (allS (Or.inr z344) all0)
          have R345 : CHr Z own_EL s.vm h0 T319.vm T319.heap := R323.trans hr319
          have R346 : CHr Z own_EL s.vm h0 T319.vm h327 := R345.trans (CHr.ext E327 R345.1)
          have sf_348 : Safe Z own_EL T319.vm h327 b327 := Safe.exa hZ319.alike A327 own_lm_284 own_lm_285
          have R347 : CHr Z own_EL s.vm h0 T319.vm T330.heap := R346.trans (CHr.keep K330 (sfS sf_348 sf0) R346.1)
          exact own_retXH X334 Si319 (Nat.le_trans (Nat.le_refl _) (Nat.le_trans E327.1 K330.1)) e334 hZ319 (own_hEL hw) hs0 R347 hx hlk hret rfl (Or.inl ⟨rfl, by simp, _, rfl⟩) (hb hby at_149) (by decide) (by decide) (show Qrm0 Z wcs wd nb ca cb fl h0 n0 (some (.int (1 : Int32))) T334.heap _ from (by rw [e334]; exact ⟨rfl, N334, K343⟩))
      · refine own_st (fun u_ k_ => XS.ifNo X282.here hx rfl (hb hby at_64) rfl (XT.i0_eq_f hc287) k_) ?_
        refine own_st (fun u_ k_ => XS.aconstNull X282.here hx rfl (hb hby at_67) k_) ?_
        show own_Go p e below _ (T282.setTop (mkF m 68 #[.val (.int nb), .val (.int ca), .val (.int cb), .val (.int fl), .val (.int ((ca &&& (255 : Int32)).toUInt32.toUInt16.toUInt32.toInt32)), .val (.int ((cb &&& (255 : Int32)).toUInt32.toUInt16.toUInt32.toInt32)), .val (.ref r_279), .val (.ref r_285), .unset, .unset, .unset, .unset] [.null]))
        refine own_st (fun u_ k_ => XS.goto X282.here hx rfl (pc0 := 68) (pc' := 78) rfl (hb hby at_68) (by decide) (by decide) k_) ?_
        refine own_st (fun u_ k_ => XS.astore X282.here hx rfl (hb hby at_78) rfl rfl (l' := #[.val (.int nb), .val (.int ca), .val (.int cb), .val (.int fl), .val (.int ((ca &&& (255 : Int32)).toUInt32.toUInt16.toUInt32.toInt32)), .val (.int ((cb &&& (255 : Int32)).toUInt32.toUInt16.toUInt32.toInt32)), .val (.ref r_279), .val (.ref r_285), .val .null, .unset, .unset, .unset]) rfl k_) ?_
        show own_Go p e below _ (T282.setTop (mkF m 80 #[.val (.int nb), .val (.int ca), .val (.int cb), .val (.int fl), .val (.int ((ca &&& (255 : Int32)).toUInt32.toUInt16.toUInt32.toInt32)), .val (.int ((cb &&& (255 : Int32)).toUInt32.toUInt16.toUInt32.toInt32)), .val (.ref r_279), .val (.ref r_285), .val .null, .unset, .unset, .unset] []))
        refine own_st (fun u_ k_ => XS.iloadN X282.here hx rfl (hb hby at_80) rfl k_) ?_
        refine own_st (fun u_ k_ => XS.bipush X282.here hx rfl (hb hby at_81) k_) ?_
        show own_Go p e below _ (T282.setTop (mkF m 83 #[.val (.int nb), .val (.int ca), .val (.int cb), .val (.int fl), .val (.int ((ca &&& (255 : Int32)).toUInt32.toUInt16.toUInt32.toInt32)), .val (.int ((cb &&& (255 : Int32)).toUInt32.toUInt16.toUInt32.toInt32)), .val (.ref r_279), .val (.ref r_285), .val .null, .unset, .unset, .unset] [(.int (8 : Int32)), (.int fl)]))
        refine own_st (fun u_ k_ => XS.iand X282.here hx rfl (hb hby at_83) rfl k_) ?_
        by_cases hc349 : (fl &&& (8 : Int32)) = (0 : Int32)
        · refine own_st (fun u_ k_ => XS.ifYes X282.here hx rfl (pc0 := 84) (pc' := 91) rfl (hb hby at_84) rfl (XT.i0_eq_t hc349) (by decide) (by decide) k_) ?_
          show own_Go p e below _ (T282.setTop (mkF m 91 #[.val (.int nb), .val (.int ca), .val (.int cb), .val (.int fl), .val (.int ((ca &&& (255 : Int32)).toUInt32.toUInt16.toUInt32.toInt32)), .val (.int ((cb &&& (255 : Int32)).toUInt32.toUInt16.toUInt32.toInt32)), .val (.ref r_279), .val (.ref r_285), .val .null, .unset, .unset, .unset] []))
          refine own_st (fun u_ k_ => XS.iconst X282.here hx rfl (hb hby at_91) k_) ?_
          refine own_st (fun u_ k_ => XS.istore X282.here hx rfl (hb hby at_92) rfl (l' := #[.val (.int nb), .val (.int ca), .val (.int cb), .val (.int fl), .val (.int ((ca &&& (255 : Int32)).toUInt32.toUInt16.toUInt32.toInt32)), .val (.int ((cb &&& (255 : Int32)).toUInt32.toUInt16.toUInt32.toInt32)), .val (.ref r_279), .val (.ref r_285), .val .null, .val (.int (0 : Int32)), .unset, .unset]) rfl k_) ?_
          show own_Go p e below _ (T282.setTop (mkF m 94 #[.val (.int nb), .val (.int ca), .val (.int cb), .val (.int fl), .val (.int ((ca &&& (255 : Int32)).toUInt32.toUInt16.toUInt32.toInt32)), .val (.int ((cb &&& (255 : Int32)).toUInt32.toUInt16.toUInt32.toInt32)), .val (.ref r_279), .val (.ref r_285), .val .null, .val (.int (0 : Int32)), .unset, .unset] []))
          refine own_st (fun u_ k_ => XS.iload X282.here hx rfl (hb hby at_94) rfl k_) ?_
          refine own_st (fun u_ k_ => XS.ifYes X282.here hx rfl (pc0 := 96) (pc' := 113) rfl (hb hby at_96) rfl (XT.i0_eq_t (by decide)) (by decide) (by decide) k_) ?_
          show own_Go p e below _ (T282.setTop (mkF m 113 #[.val (.int nb), .val (.int ca), .val (.int cb), .val (.int fl), .val (.int ((ca &&& (255 : Int32)).toUInt32.toUInt16.toUInt32.toInt32)), .val (.int ((cb &&& (255 : Int32)).toUInt32.toUInt16.toUInt32.toInt32)), .val (.ref r_279), .val (.ref r_285), .val .null, .val (.int (0 : Int32)), .unset, .unset] []))
          refine own_st (fun u_ k_ => XS.aconstNull X282.here hx rfl (hb hby at_113) k_) ?_
          refine own_st (fun u_ k_ => XS.astore X282.here hx rfl (hb hby at_114) rfl rfl (l' := #[.val (.int nb), .val (.int ca), .val (.int cb), .val (.int fl), .val (.int ((ca &&& (255 : Int32)).toUInt32.toUInt16.toUInt32.toInt32)), .val (.int ((cb &&& (255 : Int32)).toUInt32.toUInt16.toUInt32.toInt32)), .val (.ref r_279), .val (.ref r_285), .val .null, .val (.int (0 : Int32)), .val .null, .unset]) rfl k_) ?_
          show own_Go p e below _ (T282.setTop (mkF m 116 #[.val (.int nb), .val (.int ca), .val (.int cb), .val (.int fl), .val (.int ((ca &&& (255 : Int32)).toUInt32.toUInt16.toUInt32.toInt32)), .val (.int ((cb &&& (255 : Int32)).toUInt32.toUInt16.toUInt32.toInt32)), .val (.ref r_279), .val (.ref r_285), .val .null, .val (.int (0 : Int32)), .val .null, .unset] []))
          obtain ⟨T350, h350, X350, e350, E350, A350, D350, U350, st350⟩ := newO X282 hx hZ282 hown282 (own_w hw 50 rfl) (own_w hw 51 rfl) (own_w hw 52 rfl) rfl (g := (mkF m 116 #[.val (.int nb), .val (.int ca), .val (.int cb), .val (.int fl), .val (.int ((ca &&& (255 : Int32)).toUInt32.toUInt16.toUInt32.toInt32)), .val (.int ((cb &&& (255 : Int32)).toUInt32.toUInt16.toUInt32.toInt32)), .val (.ref r_279), .val (.ref r_285), .val .null, .val (.int (0 : Int32)), .val .null, .unset] [])) rfl (hb hby at_116) (by decide) (by decide)
          obtain ⟨b350, g350⟩ : ∃ z, z = T282.heap.size := ⟨_, rfl⟩
          rw [← g350] at A350 D350 U350 st350
          have F350_number : Fld Z h350 b350 own_c_230 "number" "I" (.int (0 : Int32)) := D350 (Or.inr (own_w hw 63 rfl)) (ty := .int) own_lm_207
          have F350_id : Fld Z h350 b350 own_c_230 "id" "Ljava/lang/String;" .null := D350 (Or.inr (own_w hw 65 rfl)) (ty := (.object "java/lang/String")) own_lm_235
          have F350_data : Fld Z h350 b350 own_c_230 "data" "Ljava/lang/String;" .null := D350 (Or.inr (own_w hw 67 rfl)) (ty := (.object "java/lang/String")) own_lm_235
          have F350_manifestations : Fld Z h350 b350 own_c_230 "manifestations" "Ljava/util/List;" .null := D350 (Or.inr (own_w hw 69 rfl)) (ty := (.object "java/util/List")) own_lm_248
          have F350_refusal : Fld Z h350 b350 own_c_230 "refusal" "Ljava/lang/String;" .null := D350 (Or.inr (own_w hw 71 rfl)) (ty := (.object "java/lang/String")) own_lm_235
          refine own_st (fun u_ k_ => st350 u_ k_) ?_
          show own_Go p e below _ (T350.setTop (mkF m 119 #[.val (.int nb), .val (.int ca), .val (.int cb), .val (.int fl), .val (.int ((ca &&& (255 : Int32)).toUInt32.toUInt16.toUInt32.toInt32)), .val (.int ((cb &&& (255 : Int32)).toUInt32.toUInt16.toUInt32.toInt32)), .val (.ref r_279), .val (.ref r_285), .val .null, .val (.int (0 : Int32)), .val .null, .unset] [(.ref b350)]))
          refine own_st (fun u_ k_ => XS.dup X350.here hx rfl (hb hby at_119) rfl rfl k_) ?_
          refine own_st (fun u_ k_ => XS.iloadN X350.here hx rfl (hb hby at_120) rfl k_) ?_
          show own_Go p e below _ (T350.setTop (mkF m 121 #[.val (.int nb), .val (.int ca), .val (.int cb), .val (.int fl), .val (.int ((ca &&& (255 : Int32)).toUInt32.toUInt16.toUInt32.toInt32)), .val (.int ((cb &&& (255 : Int32)).toUInt32.toUInt16.toUInt32.toInt32)), .val (.ref r_279), .val (.ref r_285), .val .null, .val (.int (0 : Int32)), .val .null, .unset] [(.int nb), (.ref b350), (.ref b350)]))
          refine own_st (fun u_ k_ => XS.aload X350.here hx rfl (hb hby at_121) rfl rfl k_) ?_
          refine own_st (fun u_ k_ => XS.aload X350.here hx rfl (hb hby at_123) rfl rfl k_) ?_
          show own_Go p e below _ (T350.setTop (mkF m 125 #[.val (.int nb), .val (.int ca), .val (.int cb), .val (.int fl), .val (.int ((ca &&& (255 : Int32)).toUInt32.toUInt16.toUInt32.toInt32)), .val (.int ((cb &&& (255 : Int32)).toUInt32.toUInt16.toUInt32.toInt32)), .val (.ref r_279), .val (.ref r_285), .val .null, .val (.int (0 : Int32)), .val .null, .unset] [(.ref r_285), (.ref r_279), (.int nb), (.ref b350), (.ref b350)]))
          refine own_st (fun u_ k_ => XS.aload X350.here hx rfl (hb hby at_125) rfl rfl k_) ?_
          refine own_st (fun u_ k_ => XS.aload X350.here hx rfl (hb hby at_127) rfl rfl k_) ?_
          show own_Go p e below _ (T350.setTop (mkF m 129 #[.val (.int nb), .val (.int ca), .val (.int cb), .val (.int fl), .val (.int ((ca &&& (255 : Int32)).toUInt32.toUInt16.toUInt32.toInt32)), .val (.int ((cb &&& (255 : Int32)).toUInt32.toUInt16.toUInt32.toInt32)), .val (.ref r_279), .val (.ref r_285), .val .null, .val (.int (0 : Int32)), .val .null, .unset] [.null, .null, (.ref r_285), (.ref r_279), (.int nb), (.ref b350), (.ref b350)]))
          have O352 : Old Z n0 T282.heap := O283.keep K282 all0
          have g351 : n0 ≤ b350 := Nat.le_trans (own_nl O352) (Nat.le_of_eq g350.symm)
          have O354 : Old Z n0 h350 := O352.ext E350
          obtain ⟨T353, v353, L353, X353, hQ353, st353⟩ := own_callN X350 hx hZ282 (y := own_y_266) rfl hown282 (own_w hw 53 rfl) (own_w hw 54 rfl) (own_w hw 52 rfl) (own_w hw 55 rfl) own_lm_279 (rmDL l Z a0 hw [] wcs wd hS b350 nb ((.ref r_279) : Value) ((.ref r_285) : Value) (.null : Value) (.null : Value) h350 n0 O354 A350 g351 rfl rfl rfl rfl F350_number F350_id F350_data F350_manifestations F350_refusal) e350 own_pd_280 (a := b350) (argsL := [(.int nb), (.ref r_279), (.ref r_285), .null, .null]) (rest := [(.ref b350)]) rfl rfl (g := (mkF m 129 #[.val (.int nb), .val (.int ca), .val (.int cb), .val (.int fl), .val (.int ((ca &&& (255 : Int32)).toUInt32.toUInt16.toUInt32.toInt32)), .val (.int ((cb &&& (255 : Int32)).toUInt32.toUInt16.toUInt32.toInt32)), .val (.ref r_279), .val (.ref r_285), .val .null, .val (.int (0 : Int32)), .val .null, .unset] [.null, .null, (.ref r_285), (.ref r_279), (.int nb), (.ref b350), (.ref b350)])) rfl (by rw [hml]; rfl) rfl (hb hby at_129) (W := 1) rfl (by decide) (by decide) (by decide) (by decide)
          obtain ⟨rfl, M353, K353, F355, F356⟩ := hQ353
          have N353 := Fr.app N282 M353
          refine own_st (fun u_ k_ => st353 u_ k_) ?_
          show own_Go p e below _ (T353.setTop (mkF m 132 #[.val (.int nb), .val (.int ca), .val (.int cb), .val (.int fl), .val (.int ((ca &&& (255 : Int32)).toUInt32.toUInt16.toUInt32.toInt32)), .val (.int ((cb &&& (255 : Int32)).toUInt32.toUInt16.toUInt32.toInt32)), .val (.ref r_279), .val (.ref r_285), .val .null, .val (.int (0 : Int32)), .val .null, .unset] [(.ref b350)]))
          refine own_st (fun u_ k_ => XS.astore X353.here hx rfl (hb hby at_132) rfl rfl (l' := #[.val (.int nb), .val (.int ca), .val (.int cb), .val (.int fl), .val (.int ((ca &&& (255 : Int32)).toUInt32.toUInt16.toUInt32.toInt32)), .val (.int ((cb &&& (255 : Int32)).toUInt32.toUInt16.toUInt32.toInt32)), .val (.ref r_279), .val (.ref r_285), .val .null, .val (.int (0 : Int32)), .val .null, .val (.ref b350)]) rfl k_) ?_
          refine own_st (fun u_ k_ => XS.aload X353.here hx rfl (hb hby at_134) rfl rfl k_) ?_
          show own_Go p e below _ (T353.setTop (mkF m 136 #[.val (.int nb), .val (.int ca), .val (.int cb), .val (.int fl), .val (.int ((ca &&& (255 : Int32)).toUInt32.toUInt16.toUInt32.toInt32)), .val (.int ((cb &&& (255 : Int32)).toUInt32.toUInt16.toUInt32.toInt32)), .val (.ref r_279), .val (.ref r_285), .val .null, .val (.int (0 : Int32)), .val .null, .val (.ref b350)] [(.ref b350)]))
          have O358 : Old Z n0 T353.heap := O354.keep K353 (allS g351 all0)
          obtain ⟨T357, v357, L357, X357, hQ357, st357⟩ := own_callV X353 hx hZ282 (y := own_y_273) (z := own_y_273) hown282 (own_w hw 72 rfl) (own_w hw 73 rfl) (notFace_of_selects (args := #[]) (mvT hZ282 (own_w hw 75 rfl))) (own_w hw 75 rfl) (own_w hw 74 rfl) (own_w hw 52 rfl) (own_w hw 76 rfl) own_lm_279 (rmIN l Z a0 hw [] wcs wd hS b350 T353.heap n0 O358 F356) rfl F355 own_pd_281 (argsL := []) (rest := []) rfl rfl (g := (mkF m 136 #[.val (.int nb), .val (.int ca), .val (.int cb), .val (.int fl), .val (.int ((ca &&& (255 : Int32)).toUInt32.toUInt16.toUInt32.toInt32)), .val (.int ((cb &&& (255 : Int32)).toUInt32.toUInt16.toUInt32.toInt32)), .val (.ref r_279), .val (.ref r_285), .val .null, .val (.int (0 : Int32)), .val .null, .val (.ref b350)] [(.ref b350)])) rfl (by rw [hml]; rfl) rfl (hb hby at_136) (W := 0) rfl (by decide) (by decide) (by decide) (by decide)
          obtain ⟨rfl, M357, e357⟩ := hQ357
          have N357 := Fr.app N353 M357
          refine own_st (fun u_ k_ => st357 u_ k_) ?_
          show own_Go p e below _ (T357.setTop (mkF m 139 #[.val (.int nb), .val (.int ca), .val (.int cb), .val (.int fl), .val (.int ((ca &&& (255 : Int32)).toUInt32.toUInt16.toUInt32.toInt32)), .val (.int ((cb &&& (255 : Int32)).toUInt32.toUInt16.toUInt32.toInt32)), .val (.ref r_279), .val (.ref r_285), .val .null, .val (.int (0 : Int32)), .val .null, .val (.ref b350)] [(.int (0 : Int32))]))
          refine own_st (fun u_ k_ => XS.iload X357.here hx rfl (hb hby at_139) rfl k_) ?_
          refine own_st (fun u_ k_ => XS.icmpNo X357.here hx rfl (hb hby at_141) rfl (XT.ii_ne_f (by decide)) k_) ?_
          show own_Go p e below _ (T357.setTop (mkF m 144 #[.val (.int nb), .val (.int ca), .val (.int cb), .val (.int fl), .val (.int ((ca &&& (255 : Int32)).toUInt32.toUInt16.toUInt32.toInt32)), .val (.int ((cb &&& (255 : Int32)).toUInt32.toUInt16.toUInt32.toInt32)), .val (.ref r_279), .val (.ref r_285), .val .null, .val (.int (0 : Int32)), .val .null, .val (.ref b350)] []))
          refine own_st (fun u_ k_ => XS.iconst X357.here hx rfl (hb hby at_144) k_) ?_
          refine own_st (fun u_ k_ => XS.goto X357.here hx rfl (pc0 := 145) (pc' := 149) rfl (hb hby at_145) (by decide) (by decide) k_) ?_
          show own_Go p e below _ (T357.setTop (mkF m 149 #[.val (.int nb), .val (.int ca), .val (.int cb), .val (.int fl), .val (.int ((ca &&& (255 : Int32)).toUInt32.toUInt16.toUInt32.toInt32)), .val (.int ((cb &&& (255 : Int32)).toUInt32.toUInt16.toUInt32.toInt32)), .val (.ref r_279), .val (.ref r_285), .val .null, .val (.int (0 : Int32)), .val .null, .val (.ref b350)] [(.int (1 : Int32))]))
          have K359 : Keep h0 T278.heap [] := (Keep.refl h0 []).trans K278 all0
          have K360 : Keep h0 T282.heap [] := K359.trans K282 all0
          have K361 : Keep h0 h350 [] := K360.ext E350
          have z363 : h0.size ≤ b350 := Nat.le_trans (Nat.le_trans K278.1 K282.1) (Nat.le_of_eq g350.symm)
          have K362 : Keep h0 T353.heap [] := K361.trans K353 (allS (Or.inr z363) all0)
          have R364 : CHr Z own_EL s.vm h0 T282.vm T282.heap := R284.trans hr282
          have R365 : CHr Z own_EL s.vm h0 T282.vm h350 := R364.trans (CHr.ext E350 R364.1)
          have sf_367 : Safe Z own_EL T282.vm h350 b350 := Safe.exa hZ282.alike A350 own_lm_284 own_lm_285
          have R366 : CHr Z own_EL s.vm h0 T282.vm T353.heap := R365.trans (CHr.keep K353 (sfS sf_367 sf0) R365.1)
          exact own_retXH X357 Si282 (Nat.le_trans (Nat.le_refl _) (Nat.le_trans E350.1 K353.1)) e357 hZ282 (own_hEL hw) hs0 R366 hx hlk hret rfl (Or.inl ⟨rfl, by simp, _, rfl⟩) (hb hby at_149) (by decide) (by decide) (show Qrm0 Z wcs wd nb ca cb fl h0 n0 (some (.int (1 : Int32))) T357.heap _ from (by rw [e357]; exact ⟨rfl, N357, K362⟩))
        · refine own_st (fun u_ k_ => XS.ifNo X282.here hx rfl (hb hby at_84) rfl (XT.i0_eq_f hc349) k_) ?_
          show own_Go p e below _ (T282.setTop (mkF m 87 #[.val (.int nb), .val (.int ca), .val (.int cb), .val (.int fl), .val (.int ((ca &&& (255 : Int32)).toUInt32.toUInt16.toUInt32.toInt32)), .val (.int ((cb &&& (255 : Int32)).toUInt32.toUInt16.toUInt32.toInt32)), .val (.ref r_279), .val (.ref r_285), .val .null, .unset, .unset, .unset] []))
          refine own_st (fun u_ k_ => XS.iconst X282.here hx rfl (hb hby at_87) k_) ?_
          refine own_st (fun u_ k_ => XS.goto X282.here hx rfl (pc0 := 88) (pc' := 92) rfl (hb hby at_88) (by decide) (by decide) k_) ?_
          show own_Go p e below _ (T282.setTop (mkF m 92 #[.val (.int nb), .val (.int ca), .val (.int cb), .val (.int fl), .val (.int ((ca &&& (255 : Int32)).toUInt32.toUInt16.toUInt32.toInt32)), .val (.int ((cb &&& (255 : Int32)).toUInt32.toUInt16.toUInt32.toInt32)), .val (.ref r_279), .val (.ref r_285), .val .null, .unset, .unset, .unset] [(.int (1 : Int32))]))
          refine own_st (fun u_ k_ => XS.istore X282.here hx rfl (hb hby at_92) rfl (l' := #[.val (.int nb), .val (.int ca), .val (.int cb), .val (.int fl), .val (.int ((ca &&& (255 : Int32)).toUInt32.toUInt16.toUInt32.toInt32)), .val (.int ((cb &&& (255 : Int32)).toUInt32.toUInt16.toUInt32.toInt32)), .val (.ref r_279), .val (.ref r_285), .val .null, .val (.int (1 : Int32)), .unset, .unset]) rfl k_) ?_
          refine own_st (fun u_ k_ => XS.iload X282.here hx rfl (hb hby at_94) rfl k_) ?_
          show own_Go p e below _ (T282.setTop (mkF m 96 #[.val (.int nb), .val (.int ca), .val (.int cb), .val (.int fl), .val (.int ((ca &&& (255 : Int32)).toUInt32.toUInt16.toUInt32.toInt32)), .val (.int ((cb &&& (255 : Int32)).toUInt32.toUInt16.toUInt32.toInt32)), .val (.ref r_279), .val (.ref r_285), .val .null, .val (.int (1 : Int32)), .unset, .unset] [(.int (1 : Int32))]))
          refine own_st (fun u_ k_ => XS.ifNo X282.here hx rfl (hb hby at_96) rfl (XT.i0_eq_f (by decide)) k_) ?_
          refine own_st (fun u_ k_ => XS.iloadN X282.here hx rfl (hb hby at_99) rfl k_) ?_
          show own_Go p e below _ (T282.setTop (mkF m 100 #[.val (.int nb), .val (.int ca), .val (.int cb), .val (.int fl), .val (.int ((ca &&& (255 : Int32)).toUInt32.toUInt16.toUInt32.toInt32)), .val (.int ((cb &&& (255 : Int32)).toUInt32.toUInt16.toUInt32.toInt32)), .val (.ref r_279), .val (.ref r_285), .val .null, .val (.int (1 : Int32)), .unset, .unset] [(.int fl)]))
          refine own_st (fun u_ k_ => XS.bipush X282.here hx rfl (hb hby at_100) k_) ?_
          refine own_st (fun u_ k_ => XS.iushr X282.here hx rfl (hb hby at_102) rfl k_) ?_
          show own_Go p e below _ (T282.setTop (mkF m 103 #[.val (.int nb), .val (.int ca), .val (.int cb), .val (.int fl), .val (.int ((ca &&& (255 : Int32)).toUInt32.toUInt16.toUInt32.toInt32)), .val (.int ((cb &&& (255 : Int32)).toUInt32.toUInt16.toUInt32.toInt32)), .val (.ref r_279), .val (.ref r_285), .val .null, .val (.int (1 : Int32)), .unset, .unset] [(.int ((fl.toUInt32 >>> ((8 : Int32) &&& 31).toUInt32).toInt32))]))
          refine own_st (fun u_ k_ => XS.iload X282.here hx rfl (hb hby at_103) rfl k_) ?_
          refine own_st (fun u_ k_ => XS.iload X282.here hx rfl (hb hby at_105) rfl k_) ?_
          show own_Go p e below _ (T282.setTop (mkF m 107 #[.val (.int nb), .val (.int ca), .val (.int cb), .val (.int fl), .val (.int ((ca &&& (255 : Int32)).toUInt32.toUInt16.toUInt32.toInt32)), .val (.int ((cb &&& (255 : Int32)).toUInt32.toUInt16.toUInt32.toInt32)), .val (.ref r_279), .val (.ref r_285), .val .null, .val (.int (1 : Int32)), .unset, .unset] [(.int ((cb &&& (255 : Int32)).toUInt32.toUInt16.toUInt32.toInt32)), (.int ((ca &&& (255 : Int32)).toUInt32.toUInt16.toUInt32.toInt32)), (.int ((fl.toUInt32 >>> ((8 : Int32) &&& 31).toUInt32).toInt32))]))
          have O369 : Old Z n0 T282.heap := O283.keep K282 all0
          have R370 : CHr Z own_EL s.vm h0 T282.vm T282.heap := R284.trans hr282
          obtain ⟨T368, v368, L368, X368, Si368, hZ368, hown368, hQ368, hr368, st368⟩ := own_callSH X282 hx hZ282 Si282 (Nat.le_refl _) (own_hEL hw) R370.1 own_sf0 (y := own_y_188) hown282 (own_w hw 0 rfl) (own_w hw 1 rfl) (own_w hw 2 rfl) (own_w hw 3 rfl) own_lm_276 (rmStr l Z a0 hw [] wcs wd hS ((fl.toUInt32 >>> ((8 : Int32) &&& 31).toUInt32).toInt32) ((ca &&& (255 : Int32)).toUInt32.toUInt16.toUInt32.toInt32) ((cb &&& (255 : Int32)).toUInt32.toUInt16.toUInt32.toInt32) T282.heap n0 O369 (own_c255 _) (own_c255n _) (own_c255n _)) rfl own_pd_277 (argsL := [(.int ((fl.toUInt32 >>> ((8 : Int32) &&& 31).toUInt32).toInt32)), (.int ((ca &&& (255 : Int32)).toUInt32.toUInt16.toUInt32.toInt32)), (.int ((cb &&& (255 : Int32)).toUInt32.toUInt16.toUInt32.toInt32))]) (rest := []) rfl rfl (g := (mkF m 107 #[.val (.int nb), .val (.int ca), .val (.int cb), .val (.int fl), .val (.int ((ca &&& (255 : Int32)).toUInt32.toUInt16.toUInt32.toInt32)), .val (.int ((cb &&& (255 : Int32)).toUInt32.toUInt16.toUInt32.toInt32)), .val (.ref r_279), .val (.ref r_285), .val .null, .val (.int (1 : Int32)), .unset, .unset] [(.int ((cb &&& (255 : Int32)).toUInt32.toUInt16.toUInt32.toInt32)), (.int ((ca &&& (255 : Int32)).toUInt32.toUInt16.toUInt32.toInt32)), (.int ((fl.toUInt32 >>> ((8 : Int32) &&& 31).toUInt32).toInt32))])) rfl (by rw [hml]; rfl) rfl (hb hby at_107) (W := 0) rfl (by decide) (by decide) (by decide) (by decide)
          obtain ⟨r_371, rfl, M368, K368, F372⟩ := hQ368
          have N368 := Fr.app N282 M368
          refine own_st (fun u_ k_ => st368 u_ k_) ?_
          show own_Go p e below _ (T368.setTop (mkF m 110 #[.val (.int nb), .val (.int ca), .val (.int cb), .val (.int fl), .val (.int ((ca &&& (255 : Int32)).toUInt32.toUInt16.toUInt32.toInt32)), .val (.int ((cb &&& (255 : Int32)).toUInt32.toUInt16.toUInt32.toInt32)), .val (.ref r_279), .val (.ref r_285), .val .null, .val (.int (1 : Int32)), .unset, .unset] [(.ref r_371)]))
          refine own_st (fun u_ k_ => XS.goto X368.here hx rfl (pc0 := 110) (pc' := 114) rfl (hb hby at_110) (by decide) (by decide) k_) ?_
          refine own_st (fun u_ k_ => XS.astore X368.here hx rfl (hb hby at_114) rfl rfl (l' := #[.val (.int nb), .val (.int ca), .val (.int cb), .val (.int fl), .val (.int ((ca &&& (255 : Int32)).toUInt32.toUInt16.toUInt32.toInt32)), .val (.int ((cb &&& (255 : Int32)).toUInt32.toUInt16.toUInt32.toInt32)), .val (.ref r_279), .val (.ref r_285), .val .null, .val (.int (1 : Int32)), .val (.ref r_371), .unset]) rfl k_) ?_
          show own_Go p e below _ (T368.setTop (mkF m 116 #[.val (.int nb), .val (.int ca), .val (.int cb), .val (.int fl), .val (.int ((ca &&& (255 : Int32)).toUInt32.toUInt16.toUInt32.toInt32)), .val (.int ((cb &&& (255 : Int32)).toUInt32.toUInt16.toUInt32.toInt32)), .val (.ref r_279), .val (.ref r_285), .val .null, .val (.int (1 : Int32)), .val (.ref r_371), .unset] []))
          obtain ⟨T373, h373, X373, e373, E373, A373, D373, U373, st373⟩ := newO X368 hx hZ368 hown368 (own_w hw 50 rfl) (own_w hw 51 rfl) (own_w hw 52 rfl) rfl (g := (mkF m 116 #[.val (.int nb), .val (.int ca), .val (.int cb), .val (.int fl), .val (.int ((ca &&& (255 : Int32)).toUInt32.toUInt16.toUInt32.toInt32)), .val (.int ((cb &&& (255 : Int32)).toUInt32.toUInt16.toUInt32.toInt32)), .val (.ref r_279), .val (.ref r_285), .val .null, .val (.int (1 : Int32)), .val (.ref r_371), .unset] [])) rfl (hb hby at_116) (by decide) (by decide)
          obtain ⟨b373, g373⟩ : ∃ z, z = T368.heap.size := ⟨_, rfl⟩
          rw [← g373] at A373 D373 U373 st373
          have F373_number : Fld Z h373 b373 own_c_230 "number" "I" (.int (0 : Int32)) := D373 (Or.inr (own_w hw 63 rfl)) (ty := .int) own_lm_207
          have F373_id : Fld Z h373 b373 own_c_230 "id" "Ljava/lang/String;" .null := D373 (Or.inr (own_w hw 65 rfl)) (ty := (.object "java/lang/String")) own_lm_235
          have F373_data : Fld Z h373 b373 own_c_230 "data" "Ljava/lang/String;" .null := D373 (Or.inr (own_w hw 67 rfl)) (ty := (.object "java/lang/String")) own_lm_235
          have F373_manifestations : Fld Z h373 b373 own_c_230 "manifestations" "Ljava/util/List;" .null := D373 (Or.inr (own_w hw 69 rfl)) (ty := (.object "java/util/List")) own_lm_248
          have F373_refusal : Fld Z h373 b373 own_c_230 "refusal" "Ljava/lang/String;" .null := D373 (Or.inr (own_w hw 71 rfl)) (ty := (.object "java/lang/String")) own_lm_235
          refine own_st (fun u_ k_ => st373 u_ k_) ?_
          show own_Go p e below _ (T373.setTop (mkF m 119 #[.val (.int nb), .val (.int ca), .val (.int cb), .val (.int fl), .val (.int ((ca &&& (255 : Int32)).toUInt32.toUInt16.toUInt32.toInt32)), .val (.int ((cb &&& (255 : Int32)).toUInt32.toUInt16.toUInt32.toInt32)), .val (.ref r_279), .val (.ref r_285), .val .null, .val (.int (1 : Int32)), .val (.ref r_371), .unset] [(.ref b373)]))
          refine own_st (fun u_ k_ => XS.dup X373.here hx rfl (hb hby at_119) rfl rfl k_) ?_
          refine own_st (fun u_ k_ => XS.iloadN X373.here hx rfl (hb hby at_120) rfl k_) ?_
          show own_Go p e below _ (T373.setTop (mkF m 121 #[.val (.int nb), .val (.int ca), .val (.int cb), .val (.int fl), .val (.int ((ca &&& (255 : Int32)).toUInt32.toUInt16.toUInt32.toInt32)), .val (.int ((cb &&& (255 : Int32)).toUInt32.toUInt16.toUInt32.toInt32)), .val (.ref r_279), .val (.ref r_285), .val .null, .val (.int (1 : Int32)), .val (.ref r_371), .unset] [(.int nb), (.ref b373), (.ref b373)]))
          refine own_st (fun u_ k_ => XS.aload X373.here hx rfl (hb hby at_121) rfl rfl k_) ?_
          refine own_st (fun u_ k_ => XS.aload X373.here hx rfl (hb hby at_123) rfl rfl k_) ?_
          show own_Go p e below _ (T373.setTop (mkF m 125 #[.val (.int nb), .val (.int ca), .val (.int cb), .val (.int fl), .val (.int ((ca &&& (255 : Int32)).toUInt32.toUInt16.toUInt32.toInt32)), .val (.int ((cb &&& (255 : Int32)).toUInt32.toUInt16.toUInt32.toInt32)), .val (.ref r_279), .val (.ref r_285), .val .null, .val (.int (1 : Int32)), .val (.ref r_371), .unset] [(.ref r_285), (.ref r_279), (.int nb), (.ref b373), (.ref b373)]))
          refine own_st (fun u_ k_ => XS.aload X373.here hx rfl (hb hby at_125) rfl rfl k_) ?_
          refine own_st (fun u_ k_ => XS.aload X373.here hx rfl (hb hby at_127) rfl rfl k_) ?_
          show own_Go p e below _ (T373.setTop (mkF m 129 #[.val (.int nb), .val (.int ca), .val (.int cb), .val (.int fl), .val (.int ((ca &&& (255 : Int32)).toUInt32.toUInt16.toUInt32.toInt32)), .val (.int ((cb &&& (255 : Int32)).toUInt32.toUInt16.toUInt32.toInt32)), .val (.ref r_279), .val (.ref r_285), .val .null, .val (.int (1 : Int32)), .val (.ref r_371), .unset] [(.ref r_371), .null, (.ref r_285), (.ref r_279), (.int nb), (.ref b373), (.ref b373)]))
          have O375 : Old Z n0 T368.heap := O369.keep K368 all0
          have g374 : n0 ≤ b373 := Nat.le_trans (own_nl O375) (Nat.le_of_eq g373.symm)
          have O377 : Old Z n0 h373 := O375.ext E373
          obtain ⟨T376, v376, L376, X376, hQ376, st376⟩ := own_callN X373 hx hZ368 (y := own_y_266) rfl hown368 (own_w hw 53 rfl) (own_w hw 54 rfl) (own_w hw 52 rfl) (own_w hw 55 rfl) own_lm_279 (rmDL l Z a0 hw [] wcs wd hS b373 nb ((.ref r_279) : Value) ((.ref r_285) : Value) (.null : Value) ((.ref r_371) : Value) h373 n0 O377 A373 g374 rfl rfl rfl rfl F373_number F373_id F373_data F373_manifestations F373_refusal) e373 own_pd_280 (a := b373) (argsL := [(.int nb), (.ref r_279), (.ref r_285), .null, (.ref r_371)]) (rest := [(.ref b373)]) rfl rfl (g := (mkF m 129 #[.val (.int nb), .val (.int ca), .val (.int cb), .val (.int fl), .val (.int ((ca &&& (255 : Int32)).toUInt32.toUInt16.toUInt32.toInt32)), .val (.int ((cb &&& (255 : Int32)).toUInt32.toUInt16.toUInt32.toInt32)), .val (.ref r_279), .val (.ref r_285), .val .null, .val (.int (1 : Int32)), .val (.ref r_371), .unset] [(.ref r_371), .null, (.ref r_285), (.ref r_279), (.int nb), (.ref b373), (.ref b373)])) rfl (by rw [hml]; rfl) rfl (hb hby at_129) (W := 1) rfl (by decide) (by decide) (by decide) (by decide)
          obtain ⟨rfl, M376, K376, F378, F379⟩ := hQ376
          have N376 := Fr.app N368 M376
          refine own_st (fun u_ k_ => st376 u_ k_) ?_
          show own_Go p e below _ (T376.setTop (mkF m 132 #[.val (.int nb), .val (.int ca), .val (.int cb), .val (.int fl), .val (.int ((ca &&& (255 : Int32)).toUInt32.toUInt16.toUInt32.toInt32)), .val (.int ((cb &&& (255 : Int32)).toUInt32.toUInt16.toUInt32.toInt32)), .val (.ref r_279), .val (.ref r_285), .val .null, .val (.int (1 : Int32)), .val (.ref r_371), .unset] [(.ref b373)]))
          refine own_st (fun u_ k_ => XS.astore X376.here hx rfl (hb hby at_132) rfl rfl (l' := #[.val (.int nb), .val (.int ca), .val (.int cb), .val (.int fl), .val (.int ((ca &&& (255 : Int32)).toUInt32.toUInt16.toUInt32.toInt32)), .val (.int ((cb &&& (255 : Int32)).toUInt32.toUInt16.toUInt32.toInt32)), .val (.ref r_279), .val (.ref r_285), .val .null, .val (.int (1 : Int32)), .val (.ref r_371), .val (.ref b373)]) rfl k_) ?_
          refine own_st (fun u_ k_ => XS.aload X376.here hx rfl (hb hby at_134) rfl rfl k_) ?_
          show own_Go p e below _ (T376.setTop (mkF m 136 #[.val (.int nb), .val (.int ca), .val (.int cb), .val (.int fl), .val (.int ((ca &&& (255 : Int32)).toUInt32.toUInt16.toUInt32.toInt32)), .val (.int ((cb &&& (255 : Int32)).toUInt32.toUInt16.toUInt32.toInt32)), .val (.ref r_279), .val (.ref r_285), .val .null, .val (.int (1 : Int32)), .val (.ref r_371), .val (.ref b373)] [(.ref b373)]))
          have O381 : Old Z n0 T376.heap := O377.keep K376 (allS g374 all0)
          obtain ⟨T380, v380, L380, X380, hQ380, st380⟩ := own_callV X376 hx hZ368 (y := own_y_273) (z := own_y_273) hown368 (own_w hw 72 rfl) (own_w hw 73 rfl) (notFace_of_selects (args := #[]) (mvT hZ368 (own_w hw 75 rfl))) (own_w hw 75 rfl) (own_w hw 74 rfl) (own_w hw 52 rfl) (own_w hw 76 rfl) own_lm_279 (rmIR l Z a0 hw [] wcs wd hS b373 r_371 T376.heap n0 O381 F379) rfl F378 own_pd_281 (argsL := []) (rest := []) rfl rfl (g := (mkF m 136 #[.val (.int nb), .val (.int ca), .val (.int cb), .val (.int fl), .val (.int ((ca &&& (255 : Int32)).toUInt32.toUInt16.toUInt32.toInt32)), .val (.int ((cb &&& (255 : Int32)).toUInt32.toUInt16.toUInt32.toInt32)), .val (.ref r_279), .val (.ref r_285), .val .null, .val (.int (1 : Int32)), .val (.ref r_371), .val (.ref b373)] [(.ref b373)])) rfl (by rw [hml]; rfl) rfl (hb hby at_136) (W := 0) rfl (by decide) (by decide) (by decide) (by decide)
          obtain ⟨rfl, M380, e380⟩ := hQ380
          have N380 := Fr.app N376 M380
          refine own_st (fun u_ k_ => st380 u_ k_) ?_
          show own_Go p e below _ (T380.setTop (mkF m 139 #[.val (.int nb), .val (.int ca), .val (.int cb), .val (.int fl), .val (.int ((ca &&& (255 : Int32)).toUInt32.toUInt16.toUInt32.toInt32)), .val (.int ((cb &&& (255 : Int32)).toUInt32.toUInt16.toUInt32.toInt32)), .val (.ref r_279), .val (.ref r_285), .val .null, .val (.int (1 : Int32)), .val (.ref r_371), .val (.ref b373)] [(.int (1 : Int32))]))
          refine own_st (fun u_ k_ => XS.iload X380.here hx rfl (hb hby at_139) rfl k_) ?_
          refine own_st (fun u_ k_ => XS.icmpNo X380.here hx rfl (hb hby at_141) rfl (XT.ii_ne_f (by decide)) k_) ?_
          show own_Go p e below _ (T380.setTop (mkF m 144 #[.val (.int nb), .val (.int ca), .val (.int cb), .val (.int fl), .val (.int ((ca &&& (255 : Int32)).toUInt32.toUInt16.toUInt32.toInt32)), .val (.int ((cb &&& (255 : Int32)).toUInt32.toUInt16.toUInt32.toInt32)), .val (.ref r_279), .val (.ref r_285), .val .null, .val (.int (1 : Int32)), .val (.ref r_371), .val (.ref b373)] []))
          refine own_st (fun u_ k_ => XS.iconst X380.here hx rfl (hb hby at_144) k_) ?_
          refine own_st (fun u_ k_ => XS.goto X380.here hx rfl (pc0 := 145) (pc' := 149) rfl (hb hby at_145) (by decide) (by decide) k_) ?_
          show own_Go p e below _ (T380.setTop (mkF m 149 #[.val (.int nb), .val (.int ca), .val (.int cb), .val (.int fl), .val (.int ((ca &&& (255 : Int32)).toUInt32.toUInt16.toUInt32.toInt32)), .val (.int ((cb &&& (255 : Int32)).toUInt32.toUInt16.toUInt32.toInt32)), .val (.ref r_279), .val (.ref r_285), .val .null, .val (.int (1 : Int32)), .val (.ref r_371), .val (.ref b373)] [(.int (1 : Int32))]))
          have K382 : Keep h0 T278.heap [] := (Keep.refl h0 []).trans K278 all0
          have K383 : Keep h0 T282.heap [] := K382.trans K282 all0
          have K384 : Keep h0 T368.heap [] := K383.trans K368 all0
          have K385 : Keep h0 h373 [] := K384.ext E373
          have z387 : h0.size ≤ b373 := Nat.le_trans (Nat.le_trans (Nat.le_trans K278.1 K282.1) K368.1) (Nat.le_of_eq g373.symm)
          have K386 : Keep h0 T376.heap [] := K385.trans K376 (allS (Or.inr z387) all0)
          have R388 : CHr Z own_EL s.vm h0 T368.vm T368.heap := R370.trans hr368
          have R389 : CHr Z own_EL s.vm h0 T368.vm h373 := R388.trans (CHr.ext E373 R388.1)
          have sf_391 : Safe Z own_EL T368.vm h373 b373 := Safe.exa hZ368.alike A373 own_lm_284 own_lm_285
          have R390 : CHr Z own_EL s.vm h0 T368.vm T376.heap := R389.trans (CHr.keep K376 (sfS sf_391 sf0) R389.1)
          exact own_retXH X380 Si368 (Nat.le_trans (Nat.le_refl _) (Nat.le_trans E373.1 K376.1)) e380 hZ368 (own_hEL hw) hs0 R390 hx hlk hret rfl (Or.inl ⟨rfl, by simp, _, rfl⟩) (hb hby at_149) (by decide) (by decide) (show Qrm0 Z wcs wd nb ca cb fl h0 n0 (some (.int (1 : Int32))) T380.heap _ from (by rw [e380]; exact ⟨rfl, N380, K386⟩))
    · refine own_st (fun u_ k_ => XS.ifNo X278.here hx rfl (hb hby at_41) rfl (XT.i0_eq_f hc281) k_) ?_
      refine own_st (fun u_ k_ => XS.aconstNull X278.here hx rfl (hb hby at_44) k_) ?_
      show own_Go p e below _ (T278.setTop (mkF m 45 #[.val (.int nb), .val (.int ca), .val (.int cb), .val (.int fl), .val (.int ((ca &&& (255 : Int32)).toUInt32.toUInt16.toUInt32.toInt32)), .val (.int ((cb &&& (255 : Int32)).toUInt32.toUInt16.toUInt32.toInt32)), .val (.ref r_279), .unset, .unset, .unset, .unset, .unset] [.null]))
      refine own_st (fun u_ k_ => XS.goto X278.here hx rfl (pc0 := 45) (pc' := 59) rfl (hb hby at_45) (by decide) (by decide) k_) ?_
      refine own_st (fun u_ k_ => XS.astore X278.here hx rfl (hb hby at_59) rfl rfl (l' := #[.val (.int nb), .val (.int ca), .val (.int cb), .val (.int fl), .val (.int ((ca &&& (255 : Int32)).toUInt32.toUInt16.toUInt32.toInt32)), .val (.int ((cb &&& (255 : Int32)).toUInt32.toUInt16.toUInt32.toInt32)), .val (.ref r_279), .val .null, .unset, .unset, .unset, .unset]) rfl k_) ?_
      show own_Go p e below _ (T278.setTop (mkF m 61 #[.val (.int nb), .val (.int ca), .val (.int cb), .val (.int fl), .val (.int ((ca &&& (255 : Int32)).toUInt32.toUInt16.toUInt32.toInt32)), .val (.int ((cb &&& (255 : Int32)).toUInt32.toUInt16.toUInt32.toInt32)), .val (.ref r_279), .val .null, .unset, .unset, .unset, .unset] []))
      refine own_st (fun u_ k_ => XS.iloadN X278.here hx rfl (hb hby at_61) rfl k_) ?_
      refine own_st (fun u_ k_ => XS.iconst X278.here hx rfl (hb hby at_62) k_) ?_
      show own_Go p e below _ (T278.setTop (mkF m 63 #[.val (.int nb), .val (.int ca), .val (.int cb), .val (.int fl), .val (.int ((ca &&& (255 : Int32)).toUInt32.toUInt16.toUInt32.toInt32)), .val (.int ((cb &&& (255 : Int32)).toUInt32.toUInt16.toUInt32.toInt32)), .val (.ref r_279), .val .null, .unset, .unset, .unset, .unset] [(.int (4 : Int32)), (.int fl)]))
      refine own_st (fun u_ k_ => XS.iand X278.here hx rfl (hb hby at_63) rfl k_) ?_
      by_cases hc392 : (fl &&& (4 : Int32)) = (0 : Int32)
      · refine own_st (fun u_ k_ => XS.ifYes X278.here hx rfl (pc0 := 64) (pc' := 71) rfl (hb hby at_64) rfl (XT.i0_eq_t hc392) (by decide) (by decide) k_) ?_
        show own_Go p e below _ (T278.setTop (mkF m 71 #[.val (.int nb), .val (.int ca), .val (.int cb), .val (.int fl), .val (.int ((ca &&& (255 : Int32)).toUInt32.toUInt16.toUInt32.toInt32)), .val (.int ((cb &&& (255 : Int32)).toUInt32.toUInt16.toUInt32.toInt32)), .val (.ref r_279), .val .null, .unset, .unset, .unset, .unset] []))
        obtain ⟨T393, h393, X393, e393, E393, A393, D393, U393, st393⟩ := newO X278 hx hZ278 hown278 (own_w hw 26 rfl) (own_w hw 27 rfl) (own_w hw 28 rfl) rfl (g := (mkF m 71 #[.val (.int nb), .val (.int ca), .val (.int cb), .val (.int fl), .val (.int ((ca &&& (255 : Int32)).toUInt32.toUInt16.toUInt32.toInt32)), .val (.int ((cb &&& (255 : Int32)).toUInt32.toUInt16.toUInt32.toInt32)), .val (.ref r_279), .val .null, .unset, .unset, .unset, .unset] [])) rfl (hb hby at_71) (by decide) (by decide)
        obtain ⟨b393, g393⟩ : ∃ z, z = T278.heap.size := ⟨_, rfl⟩
        rw [← g393] at A393 D393 U393 st393
        have F393_modCount : Fld Z h393 b393 own_c_208 "modCount" "I" (.int (0 : Int32)) := D393 (Or.inl (own_w hw 46 rfl)) (ty := .int) own_lm_207
        have F393_elementData : Fld Z h393 b393 "java/util/ArrayList" "elementData" "[Ljava/lang/Object;" .null := D393 (Or.inl (own_w hw 49 rfl)) (ty := (.array (.object "java/lang/Object"))) own_lm_211
        refine own_st (fun u_ k_ => st393 u_ k_) ?_
        show own_Go p e below _ (T393.setTop (mkF m 74 #[.val (.int nb), .val (.int ca), .val (.int cb), .val (.int fl), .val (.int ((ca &&& (255 : Int32)).toUInt32.toUInt16.toUInt32.toInt32)), .val (.int ((cb &&& (255 : Int32)).toUInt32.toUInt16.toUInt32.toInt32)), .val (.ref r_279), .val .null, .unset, .unset, .unset, .unset] [(.ref b393)]))
        refine own_st (fun u_ k_ => XS.dup X393.here hx rfl (hb hby at_74) rfl rfl k_) ?_
        have O395 : Old Z n0 T278.heap := O0.keep K278 all0
        have g394 : n0 ≤ b393 := Nat.le_trans (own_nl O395) (Nat.le_of_eq g393.symm)
        have O397 : Old Z n0 h393 := O395.ext E393
        obtain ⟨T396, v396, L396, X396, hQ396, st396⟩ := own_callN X393 hx hZ278 (y := own_y_222) rfl hown278 (own_w hw 29 rfl) (own_w hw 30 rfl) (own_w hw 28 rfl) (own_w hw 31 rfl) own_lm_278 (rmAL l Z a0 hw [] wcs wd hS b393 h393 n0 O397 A393 g394 F393_modCount F393_elementData) e393 own_pd_203 (a := b393) (argsL := []) (rest := [(.ref b393)]) rfl rfl (g := (mkF m 75 #[.val (.int nb), .val (.int ca), .val (.int cb), .val (.int fl), .val (.int ((ca &&& (255 : Int32)).toUInt32.toUInt16.toUInt32.toInt32)), .val (.int ((cb &&& (255 : Int32)).toUInt32.toUInt16.toUInt32.toInt32)), .val (.ref r_279), .val .null, .unset, .unset, .unset, .unset] [(.ref b393), (.ref b393)])) rfl (by rw [hml]; rfl) rfl (hb hby at_75) (W := 1) rfl (by decide) (by decide) (by decide) (by decide)
        obtain ⟨rfl, M396, K396, F398⟩ := hQ396
        have N396 := Fr.app N278 M396
        refine own_st (fun u_ k_ => st396 u_ k_) ?_
        show own_Go p e below _ (T396.setTop (mkF m 78 #[.val (.int nb), .val (.int ca), .val (.int cb), .val (.int fl), .val (.int ((ca &&& (255 : Int32)).toUInt32.toUInt16.toUInt32.toInt32)), .val (.int ((cb &&& (255 : Int32)).toUInt32.toUInt16.toUInt32.toInt32)), .val (.ref r_279), .val .null, .unset, .unset, .unset, .unset] [(.ref b393)]))
        refine own_st (fun u_ k_ => XS.astore X396.here hx rfl (hb hby at_78) rfl rfl (l' := #[.val (.int nb), .val (.int ca), .val (.int cb), .val (.int fl), .val (.int ((ca &&& (255 : Int32)).toUInt32.toUInt16.toUInt32.toInt32)), .val (.int ((cb &&& (255 : Int32)).toUInt32.toUInt16.toUInt32.toInt32)), .val (.ref r_279), .val .null, .val (.ref b393), .unset, .unset, .unset]) rfl k_) ?_
        refine own_st (fun u_ k_ => XS.iloadN X396.here hx rfl (hb hby at_80) rfl k_) ?_
        show own_Go p e below _ (T396.setTop (mkF m 81 #[.val (.int nb), .val (.int ca), .val (.int cb), .val (.int fl), .val (.int ((ca &&& (255 : Int32)).toUInt32.toUInt16.toUInt32.toInt32)), .val (.int ((cb &&& (255 : Int32)).toUInt32.toUInt16.toUInt32.toInt32)), .val (.ref r_279), .val .null, .val (.ref b393), .unset, .unset, .unset] [(.int fl)]))
        refine own_st (fun u_ k_ => XS.bipush X396.here hx rfl (hb hby at_81) k_) ?_
        refine own_st (fun u_ k_ => XS.iand X396.here hx rfl (hb hby at_83) rfl k_) ?_
        show own_Go p e below _ (T396.setTop (mkF m 84 #[.val (.int nb), .val (.int ca), .val (.int cb), .val (.int fl), .val (.int ((ca &&& (255 : Int32)).toUInt32.toUInt16.toUInt32.toInt32)), .val (.int ((cb &&& (255 : Int32)).toUInt32.toUInt16.toUInt32.toInt32)), .val (.ref r_279), .val .null, .val (.ref b393), .unset, .unset, .unset] [(.int (fl &&& (8 : Int32)))]))
        by_cases hc399 : (fl &&& (8 : Int32)) = (0 : Int32)
        · refine own_st (fun u_ k_ => XS.ifYes X396.here hx rfl (pc0 := 84) (pc' := 91) rfl (hb hby at_84) rfl (XT.i0_eq_t hc399) (by decide) (by decide) k_) ?_
          refine own_st (fun u_ k_ => XS.iconst X396.here hx rfl (hb hby at_91) k_) ?_
          show own_Go p e below _ (T396.setTop (mkF m 92 #[.val (.int nb), .val (.int ca), .val (.int cb), .val (.int fl), .val (.int ((ca &&& (255 : Int32)).toUInt32.toUInt16.toUInt32.toInt32)), .val (.int ((cb &&& (255 : Int32)).toUInt32.toUInt16.toUInt32.toInt32)), .val (.ref r_279), .val .null, .val (.ref b393), .unset, .unset, .unset] [(.int (0 : Int32))]))
          refine own_st (fun u_ k_ => XS.istore X396.here hx rfl (hb hby at_92) rfl (l' := #[.val (.int nb), .val (.int ca), .val (.int cb), .val (.int fl), .val (.int ((ca &&& (255 : Int32)).toUInt32.toUInt16.toUInt32.toInt32)), .val (.int ((cb &&& (255 : Int32)).toUInt32.toUInt16.toUInt32.toInt32)), .val (.ref r_279), .val .null, .val (.ref b393), .val (.int (0 : Int32)), .unset, .unset]) rfl k_) ?_
          refine own_st (fun u_ k_ => XS.iload X396.here hx rfl (hb hby at_94) rfl k_) ?_
          show own_Go p e below _ (T396.setTop (mkF m 96 #[.val (.int nb), .val (.int ca), .val (.int cb), .val (.int fl), .val (.int ((ca &&& (255 : Int32)).toUInt32.toUInt16.toUInt32.toInt32)), .val (.int ((cb &&& (255 : Int32)).toUInt32.toUInt16.toUInt32.toInt32)), .val (.ref r_279), .val .null, .val (.ref b393), .val (.int (0 : Int32)), .unset, .unset] [(.int (0 : Int32))]))
          refine own_st (fun u_ k_ => XS.ifYes X396.here hx rfl (pc0 := 96) (pc' := 113) rfl (hb hby at_96) rfl (XT.i0_eq_t (by decide)) (by decide) (by decide) k_) ?_
          refine own_st (fun u_ k_ => XS.aconstNull X396.here hx rfl (hb hby at_113) k_) ?_
          show own_Go p e below _ (T396.setTop (mkF m 114 #[.val (.int nb), .val (.int ca), .val (.int cb), .val (.int fl), .val (.int ((ca &&& (255 : Int32)).toUInt32.toUInt16.toUInt32.toInt32)), .val (.int ((cb &&& (255 : Int32)).toUInt32.toUInt16.toUInt32.toInt32)), .val (.ref r_279), .val .null, .val (.ref b393), .val (.int (0 : Int32)), .unset, .unset] [.null]))
          refine own_st (fun u_ k_ => XS.astore X396.here hx rfl (hb hby at_114) rfl rfl (l' := #[.val (.int nb), .val (.int ca), .val (.int cb), .val (.int fl), .val (.int ((ca &&& (255 : Int32)).toUInt32.toUInt16.toUInt32.toInt32)), .val (.int ((cb &&& (255 : Int32)).toUInt32.toUInt16.toUInt32.toInt32)), .val (.ref r_279), .val .null, .val (.ref b393), .val (.int (0 : Int32)), .val .null, .unset]) rfl k_) ?_
          obtain ⟨T400, h400, X400, e400, E400, A400, D400, U400, st400⟩ := newO X396 hx hZ278 hown278 (own_w hw 50 rfl) (own_w hw 51 rfl) (own_w hw 52 rfl) rfl (g := (mkF m 116 #[.val (.int nb), .val (.int ca), .val (.int cb), .val (.int fl), .val (.int ((ca &&& (255 : Int32)).toUInt32.toUInt16.toUInt32.toInt32)), .val (.int ((cb &&& (255 : Int32)).toUInt32.toUInt16.toUInt32.toInt32)), .val (.ref r_279), .val .null, .val (.ref b393), .val (.int (0 : Int32)), .val .null, .unset] [])) rfl (hb hby at_116) (by decide) (by decide)
          obtain ⟨b400, g400⟩ : ∃ z, z = T396.heap.size := ⟨_, rfl⟩
          rw [← g400] at A400 D400 U400 st400
          have F400_number : Fld Z h400 b400 own_c_230 "number" "I" (.int (0 : Int32)) := D400 (Or.inr (own_w hw 63 rfl)) (ty := .int) own_lm_207
          have F400_id : Fld Z h400 b400 own_c_230 "id" "Ljava/lang/String;" .null := D400 (Or.inr (own_w hw 65 rfl)) (ty := (.object "java/lang/String")) own_lm_235
          have F400_data : Fld Z h400 b400 own_c_230 "data" "Ljava/lang/String;" .null := D400 (Or.inr (own_w hw 67 rfl)) (ty := (.object "java/lang/String")) own_lm_235
          have F400_manifestations : Fld Z h400 b400 own_c_230 "manifestations" "Ljava/util/List;" .null := D400 (Or.inr (own_w hw 69 rfl)) (ty := (.object "java/util/List")) own_lm_248
          have F400_refusal : Fld Z h400 b400 own_c_230 "refusal" "Ljava/lang/String;" .null := D400 (Or.inr (own_w hw 71 rfl)) (ty := (.object "java/lang/String")) own_lm_235
          refine own_st (fun u_ k_ => st400 u_ k_) ?_
          show own_Go p e below _ (T400.setTop (mkF m 119 #[.val (.int nb), .val (.int ca), .val (.int cb), .val (.int fl), .val (.int ((ca &&& (255 : Int32)).toUInt32.toUInt16.toUInt32.toInt32)), .val (.int ((cb &&& (255 : Int32)).toUInt32.toUInt16.toUInt32.toInt32)), .val (.ref r_279), .val .null, .val (.ref b393), .val (.int (0 : Int32)), .val .null, .unset] [(.ref b400)]))
          refine own_st (fun u_ k_ => XS.dup X400.here hx rfl (hb hby at_119) rfl rfl k_) ?_
          refine own_st (fun u_ k_ => XS.iloadN X400.here hx rfl (hb hby at_120) rfl k_) ?_
          show own_Go p e below _ (T400.setTop (mkF m 121 #[.val (.int nb), .val (.int ca), .val (.int cb), .val (.int fl), .val (.int ((ca &&& (255 : Int32)).toUInt32.toUInt16.toUInt32.toInt32)), .val (.int ((cb &&& (255 : Int32)).toUInt32.toUInt16.toUInt32.toInt32)), .val (.ref r_279), .val .null, .val (.ref b393), .val (.int (0 : Int32)), .val .null, .unset] [(.int nb), (.ref b400), (.ref b400)]))
          refine own_st (fun u_ k_ => XS.aload X400.here hx rfl (hb hby at_121) rfl rfl k_) ?_
          refine own_st (fun u_ k_ => XS.aload X400.here hx rfl (hb hby at_123) rfl rfl k_) ?_
          show own_Go p e below _ (T400.setTop (mkF m 125 #[.val (.int nb), .val (.int ca), .val (.int cb), .val (.int fl), .val (.int ((ca &&& (255 : Int32)).toUInt32.toUInt16.toUInt32.toInt32)), .val (.int ((cb &&& (255 : Int32)).toUInt32.toUInt16.toUInt32.toInt32)), .val (.ref r_279), .val .null, .val (.ref b393), .val (.int (0 : Int32)), .val .null, .unset] [.null, (.ref r_279), (.int nb), (.ref b400), (.ref b400)]))
          refine own_st (fun u_ k_ => XS.aload X400.here hx rfl (hb hby at_125) rfl rfl k_) ?_
          refine own_st (fun u_ k_ => XS.aload X400.here hx rfl (hb hby at_127) rfl rfl k_) ?_
          show own_Go p e below _ (T400.setTop (mkF m 129 #[.val (.int nb), .val (.int ca), .val (.int cb), .val (.int fl), .val (.int ((ca &&& (255 : Int32)).toUInt32.toUInt16.toUInt32.toInt32)), .val (.int ((cb &&& (255 : Int32)).toUInt32.toUInt16.toUInt32.toInt32)), .val (.ref r_279), .val .null, .val (.ref b393), .val (.int (0 : Int32)), .val .null, .unset] [.null, (.ref b393), .null, (.ref r_279), (.int nb), (.ref b400), (.ref b400)]))
          have O402 : Old Z n0 T396.heap := O397.keep K396 (allS g394 all0)
          have g401 : n0 ≤ b400 := Nat.le_trans (own_nl O402) (Nat.le_of_eq g400.symm)
          have O404 : Old Z n0 h400 := O402.ext E400
          obtain ⟨T403, v403, L403, X403, hQ403, st403⟩ := own_callN X400 hx hZ278 (y := own_y_266) rfl hown278 (own_w hw 53 rfl) (own_w hw 54 rfl) (own_w hw 52 rfl) (own_w hw 55 rfl) own_lm_279 (rmDL l Z a0 hw [] wcs wd hS b400 nb ((.ref r_279) : Value) (.null : Value) ((.ref b393) : Value) (.null : Value) h400 n0 O404 A400 g401 rfl rfl rfl rfl F400_number F400_id F400_data F400_manifestations F400_refusal) e400 own_pd_280 (a := b400) (argsL := [(.int nb), (.ref r_279), .null, (.ref b393), .null]) (rest := [(.ref b400)]) rfl rfl (g := (mkF m 129 #[.val (.int nb), .val (.int ca), .val (.int cb), .val (.int fl), .val (.int ((ca &&& (255 : Int32)).toUInt32.toUInt16.toUInt32.toInt32)), .val (.int ((cb &&& (255 : Int32)).toUInt32.toUInt16.toUInt32.toInt32)), .val (.ref r_279), .val .null, .val (.ref b393), .val (.int (0 : Int32)), .val .null, .unset] [.null, (.ref b393), .null, (.ref r_279), (.int nb), (.ref b400), (.ref b400)])) rfl (by rw [hml]; rfl) rfl (hb hby at_129) (W := 1) rfl (by decide) (by decide) (by decide) (by decide)
          obtain ⟨rfl, M403, K403, F405, F406⟩ := hQ403
          have N403 := Fr.app N396 M403
          refine own_st (fun u_ k_ => st403 u_ k_) ?_
          show own_Go p e below _ (T403.setTop (mkF m 132 #[.val (.int nb), .val (.int ca), .val (.int cb), .val (.int fl), .val (.int ((ca &&& (255 : Int32)).toUInt32.toUInt16.toUInt32.toInt32)), .val (.int ((cb &&& (255 : Int32)).toUInt32.toUInt16.toUInt32.toInt32)), .val (.ref r_279), .val .null, .val (.ref b393), .val (.int (0 : Int32)), .val .null, .unset] [(.ref b400)]))
          refine own_st (fun u_ k_ => XS.astore X403.here hx rfl (hb hby at_132) rfl rfl (l' := #[.val (.int nb), .val (.int ca), .val (.int cb), .val (.int fl), .val (.int ((ca &&& (255 : Int32)).toUInt32.toUInt16.toUInt32.toInt32)), .val (.int ((cb &&& (255 : Int32)).toUInt32.toUInt16.toUInt32.toInt32)), .val (.ref r_279), .val .null, .val (.ref b393), .val (.int (0 : Int32)), .val .null, .val (.ref b400)]) rfl k_) ?_
          refine own_st (fun u_ k_ => XS.aload X403.here hx rfl (hb hby at_134) rfl rfl k_) ?_
          show own_Go p e below _ (T403.setTop (mkF m 136 #[.val (.int nb), .val (.int ca), .val (.int cb), .val (.int fl), .val (.int ((ca &&& (255 : Int32)).toUInt32.toUInt16.toUInt32.toInt32)), .val (.int ((cb &&& (255 : Int32)).toUInt32.toUInt16.toUInt32.toInt32)), .val (.ref r_279), .val .null, .val (.ref b393), .val (.int (0 : Int32)), .val .null, .val (.ref b400)] [(.ref b400)]))
          have O408 : Old Z n0 T403.heap := O404.keep K403 (allS g401 all0)
          obtain ⟨T407, v407, L407, X407, hQ407, st407⟩ := own_callV X403 hx hZ278 (y := own_y_273) (z := own_y_273) hown278 (own_w hw 72 rfl) (own_w hw 73 rfl) (notFace_of_selects (args := #[]) (mvT hZ278 (own_w hw 75 rfl))) (own_w hw 75 rfl) (own_w hw 74 rfl) (own_w hw 52 rfl) (own_w hw 76 rfl) own_lm_279 (rmIN l Z a0 hw [] wcs wd hS b400 T403.heap n0 O408 F406) rfl F405 own_pd_281 (argsL := []) (rest := []) rfl rfl (g := (mkF m 136 #[.val (.int nb), .val (.int ca), .val (.int cb), .val (.int fl), .val (.int ((ca &&& (255 : Int32)).toUInt32.toUInt16.toUInt32.toInt32)), .val (.int ((cb &&& (255 : Int32)).toUInt32.toUInt16.toUInt32.toInt32)), .val (.ref r_279), .val .null, .val (.ref b393), .val (.int (0 : Int32)), .val .null, .val (.ref b400)] [(.ref b400)])) rfl (by rw [hml]; rfl) rfl (hb hby at_136) (W := 0) rfl (by decide) (by decide) (by decide) (by decide)
          obtain ⟨rfl, M407, e407⟩ := hQ407
          have N407 := Fr.app N403 M407
          refine own_st (fun u_ k_ => st407 u_ k_) ?_
          show own_Go p e below _ (T407.setTop (mkF m 139 #[.val (.int nb), .val (.int ca), .val (.int cb), .val (.int fl), .val (.int ((ca &&& (255 : Int32)).toUInt32.toUInt16.toUInt32.toInt32)), .val (.int ((cb &&& (255 : Int32)).toUInt32.toUInt16.toUInt32.toInt32)), .val (.ref r_279), .val .null, .val (.ref b393), .val (.int (0 : Int32)), .val .null, .val (.ref b400)] [(.int (0 : Int32))]))
          refine own_st (fun u_ k_ => XS.iload X407.here hx rfl (hb hby at_139) rfl k_) ?_
          refine own_st (fun u_ k_ => XS.icmpNo X407.here hx rfl (hb hby at_141) rfl (XT.ii_ne_f (by decide)) k_) ?_
          show own_Go p e below _ (T407.setTop (mkF m 144 #[.val (.int nb), .val (.int ca), .val (.int cb), .val (.int fl), .val (.int ((ca &&& (255 : Int32)).toUInt32.toUInt16.toUInt32.toInt32)), .val (.int ((cb &&& (255 : Int32)).toUInt32.toUInt16.toUInt32.toInt32)), .val (.ref r_279), .val .null, .val (.ref b393), .val (.int (0 : Int32)), .val .null, .val (.ref b400)] []))
          refine own_st (fun u_ k_ => XS.iconst X407.here hx rfl (hb hby at_144) k_) ?_
          refine own_st (fun u_ k_ => XS.goto X407.here hx rfl (pc0 := 145) (pc' := 149) rfl (hb hby at_145) (by decide) (by decide) k_) ?_
          show own_Go p e below _ (T407.setTop (mkF m 149 #[.val (.int nb), .val (.int ca), .val (.int cb), .val (.int fl), .val (.int ((ca &&& (255 : Int32)).toUInt32.toUInt16.toUInt32.toInt32)), .val (.int ((cb &&& (255 : Int32)).toUInt32.toUInt16.toUInt32.toInt32)), .val (.ref r_279), .val .null, .val (.ref b393), .val (.int (0 : Int32)), .val .null, .val (.ref b400)] [(.int (1 : Int32))]))
          have K409 : Keep h0 T278.heap [] := (Keep.refl h0 []).trans K278 all0
          have K410 : Keep h0 h393 [] := K409.ext E393
          have z412 : h0.size ≤ b393 := Nat.le_trans K278.1 (Nat.le_of_eq g393.symm)
          have K411 : Keep h0 T396.heap [] := K410.trans K396 (allS (Or.inr z412) all0)
          have K413 : Keep h0 h400 [] := K411.ext E400
          have z415 : h0.size ≤ b400 := Nat.le_trans (Nat.le_trans (Nat.le_trans K278.1 E393.1) K396.1) (Nat.le_of_eq g400.symm)
          have K414 : Keep h0 T403.heap [] := K413.trans K403 (allS (Or.inr z415) all0)
          have R416 : CHr Z own_EL s.vm h0 T278.vm T278.heap := R0.trans hr278
          have R417 : CHr Z own_EL s.vm h0 T278.vm h393 := R416.trans (CHr.ext E393 R416.1)
          have sf_419 : Safe Z own_EL T278.vm h393 b393 := Safe.exa hZ278.alike A393 own_lm_282 own_lm_283
          have R418 : CHr Z own_EL s.vm h0 T278.vm T396.heap := R417.trans (CHr.keep K396 (sfS sf_419 sf0) R417.1)
          have R420 : CHr Z own_EL s.vm h0 T278.vm h400 := R418.trans (CHr.ext E400 R418.1)
          have sf_422 : Safe Z own_EL T278.vm h400 b400 := Safe.exa hZ278.alike A400 own_lm_284 own_lm_285
          have R421 : CHr Z own_EL s.vm h0 T278.vm T403.heap := R420.trans (CHr.keep K403 (sfS sf_422 sf0) R420.1)
          exact own_retXH X407 Si278 (Nat.le_trans (Nat.le_refl _) (Nat.le_trans (Nat.le_trans (Nat.le_trans E393.1 K396.1) E400.1) K403.1)) e407 hZ278 (own_hEL hw) hs0 R421 hx hlk hret rfl (Or.inl ⟨rfl, by simp, _, rfl⟩) (hb hby at_149) (by decide) (by decide) (show Qrm0 Z wcs wd nb ca cb fl h0 n0 (some (.int (1 : Int32))) T407.heap _ from (by rw [e407]; exact ⟨rfl, N407, K414⟩))
        · refine own_st (fun u_ k_ => XS.ifNo X396.here hx rfl (hb hby at_84) rfl (XT.i0_eq_f hc399) k_) ?_
          refine own_st (fun u_ k_ => XS.iconst X396.here hx rfl (hb hby at_87) k_) ?_
          show own_Go p e below _ (T396.setTop (mkF m 88 #[.val (.int nb), .val (.int ca), .val (.int cb), .val (.int fl), .val (.int ((ca &&& (255 : Int32)).toUInt32.toUInt16.toUInt32.toInt32)), .val (.int ((cb &&& (255 : Int32)).toUInt32.toUInt16.toUInt32.toInt32)), .val (.ref r_279), .val .null, .val (.ref b393), .unset, .unset, .unset] [(.int (1 : Int32))]))
          refine own_st (fun u_ k_ => XS.goto X396.here hx rfl (pc0 := 88) (pc' := 92) rfl (hb hby at_88) (by decide) (by decide) k_) ?_
          refine own_st (fun u_ k_ => XS.istore X396.here hx rfl (hb hby at_92) rfl (l' := #[.val (.int nb), .val (.int ca), .val (.int cb), .val (.int fl), .val (.int ((ca &&& (255 : Int32)).toUInt32.toUInt16.toUInt32.toInt32)), .val (.int ((cb &&& (255 : Int32)).toUInt32.toUInt16.toUInt32.toInt32)), .val (.ref r_279), .val .null, .val (.ref b393), .val (.int (1 : Int32)), .unset, .unset]) rfl k_) ?_
          show own_Go p e below _ (T396.setTop (mkF m 94 #[.val (.int nb), .val (.int ca), .val (.int cb), .val (.int fl), .val (.int ((ca &&& (255 : Int32)).toUInt32.toUInt16.toUInt32.toInt32)), .val (.int ((cb &&& (255 : Int32)).toUInt32.toUInt16.toUInt32.toInt32)), .val (.ref r_279), .val .null, .val (.ref b393), .val (.int (1 : Int32)), .unset, .unset] []))
          refine own_st (fun u_ k_ => XS.iload X396.here hx rfl (hb hby at_94) rfl k_) ?_
          refine own_st (fun u_ k_ => XS.ifNo X396.here hx rfl (hb hby at_96) rfl (XT.i0_eq_f (by decide)) k_) ?_
          show own_Go p e below _ (T396.setTop (mkF m 99 #[.val (.int nb), .val (.int ca), .val (.int cb), .val (.int fl), .val (.int ((ca &&& (255 : Int32)).toUInt32.toUInt16.toUInt32.toInt32)), .val (.int ((cb &&& (255 : Int32)).toUInt32.toUInt16.toUInt32.toInt32)), .val (.ref r_279), .val .null, .val (.ref b393), .val (.int (1 : Int32)), .unset, .unset] []))
          refine own_st (fun u_ k_ => XS.iloadN X396.here hx rfl (hb hby at_99) rfl k_) ?_
          refine own_st (fun u_ k_ => XS.bipush X396.here hx rfl (hb hby at_100) k_) ?_
          show own_Go p e below _ (T396.setTop (mkF m 102 #[.val (.int nb), .val (.int ca), .val (.int cb), .val (.int fl), .val (.int ((ca &&& (255 : Int32)).toUInt32.toUInt16.toUInt32.toInt32)), .val (.int ((cb &&& (255 : Int32)).toUInt32.toUInt16.toUInt32.toInt32)), .val (.ref r_279), .val .null, .val (.ref b393), .val (.int (1 : Int32)), .unset, .unset] [(.int (8 : Int32)), (.int fl)]))
          refine own_st (fun u_ k_ => XS.iushr X396.here hx rfl (hb hby at_102) rfl k_) ?_
          refine own_st (fun u_ k_ => XS.iload X396.here hx rfl (hb hby at_103) rfl k_) ?_
          show own_Go p e below _ (T396.setTop (mkF m 105 #[.val (.int nb), .val (.int ca), .val (.int cb), .val (.int fl), .val (.int ((ca &&& (255 : Int32)).toUInt32.toUInt16.toUInt32.toInt32)), .val (.int ((cb &&& (255 : Int32)).toUInt32.toUInt16.toUInt32.toInt32)), .val (.ref r_279), .val .null, .val (.ref b393), .val (.int (1 : Int32)), .unset, .unset] [(.int ((ca &&& (255 : Int32)).toUInt32.toUInt16.toUInt32.toInt32)), (.int ((fl.toUInt32 >>> ((8 : Int32) &&& 31).toUInt32).toInt32))]))
          refine own_st (fun u_ k_ => XS.iload X396.here hx rfl (hb hby at_105) rfl k_) ?_
          have O424 : Old Z n0 T396.heap := O397.keep K396 (allS g394 all0)
          have R425 : CHr Z own_EL s.vm h0 T278.vm T278.heap := R0.trans hr278
          have R426 : CHr Z own_EL s.vm h0 T278.vm h393 := R425.trans (CHr.ext E393 R425.1)
          have sf_428 : Safe Z own_EL T278.vm h393 b393 := Safe.exa hZ278.alike A393 own_lm_282 own_lm_283
          have R427 : CHr Z own_EL s.vm h0 T278.vm T396.heap := R426.trans (CHr.keep K396 (sfS sf_428 sf0) R426.1)
          obtain ⟨T423, v423, L423, X423, Si423, hZ423, hown423, hQ423, hr423, st423⟩ := own_callSH X396 hx hZ278 Si278 (Nat.le_trans (Nat.le_refl _) (Nat.le_trans E393.1 K396.1)) (own_hEL hw) R427.1 own_sf0 (y := own_y_188) hown278 (own_w hw 0 rfl) (own_w hw 1 rfl) (own_w hw 2 rfl) (own_w hw 3 rfl) own_lm_276 (rmStr l Z a0 hw [] wcs wd hS ((fl.toUInt32 >>> ((8 : Int32) &&& 31).toUInt32).toInt32) ((ca &&& (255 : Int32)).toUInt32.toUInt16.toUInt32.toInt32) ((cb &&& (255 : Int32)).toUInt32.toUInt16.toUInt32.toInt32) T396.heap n0 O424 (own_c255 _) (own_c255n _) (own_c255n _)) rfl own_pd_277 (argsL := [(.int ((fl.toUInt32 >>> ((8 : Int32) &&& 31).toUInt32).toInt32)), (.int ((ca &&& (255 : Int32)).toUInt32.toUInt16.toUInt32.toInt32)), (.int ((cb &&& (255 : Int32)).toUInt32.toUInt16.toUInt32.toInt32))]) (rest := []) rfl rfl (g := (mkF m 107 #[.val (.int nb), .val (.int ca), .val (.int cb), .val (.int fl), .val (.int ((ca &&& (255 : Int32)).toUInt32.toUInt16.toUInt32.toInt32)), .val (.int ((cb &&& (255 : Int32)).toUInt32.toUInt16.toUInt32.toInt32)), .val (.ref r_279), .val .null, .val (.ref b393), .val (.int (1 : Int32)), .unset, .unset] [(.int ((cb &&& (255 : Int32)).toUInt32.toUInt16.toUInt32.toInt32)), (.int ((ca &&& (255 : Int32)).toUInt32.toUInt16.toUInt32.toInt32)), (.int ((fl.toUInt32 >>> ((8 : Int32) &&& 31).toUInt32).toInt32))])) rfl (by rw [hml]; rfl) rfl (hb hby at_107) (W := 0) rfl (by decide) (by decide) (by decide) (by decide)
          obtain ⟨r_429, rfl, M423, K423, F430⟩ := hQ423
          have N423 := Fr.app N396 M423
          refine own_st (fun u_ k_ => st423 u_ k_) ?_
          show own_Go p e below _ (T423.setTop (mkF m 110 #[.val (.int nb), .val (.int ca), .val (.int cb), .val (.int fl), .val (.int ((ca &&& (255 : Int32)).toUInt32.toUInt16.toUInt32.toInt32)), .val (.int ((cb &&& (255 : Int32)).toUInt32.toUInt16.toUInt32.toInt32)), .val (.ref r_279), .val .null, .val (.ref b393), .val (.int (1 : Int32)), .unset, .unset] [(.ref r_429)]))
          refine own_st (fun u_ k_ => XS.goto X423.here hx rfl (pc0 := 110) (pc' := 114) rfl (hb hby at_110) (by decide) (by decide) k_) ?_
          refine own_st (fun u_ k_ => XS.astore X423.here hx rfl (hb hby at_114) rfl rfl (l' := #[.val (.int nb), .val (.int ca), .val (.int cb), .val (.int fl), .val (.int ((ca &&& (255 : Int32)).toUInt32.toUInt16.toUInt32.toInt32)), .val (.int ((cb &&& (255 : Int32)).toUInt32.toUInt16.toUInt32.toInt32)), .val (.ref r_279), .val .null, .val (.ref b393), .val (.int (1 : Int32)), .val (.ref r_429), .unset]) rfl k_) ?_
          show own_Go p e below _ (T423.setTop (mkF m 116 #[.val (.int nb), .val (.int ca), .val (.int cb), .val (.int fl), .val (.int ((ca &&& (255 : Int32)).toUInt32.toUInt16.toUInt32.toInt32)), .val (.int ((cb &&& (255 : Int32)).toUInt32.toUInt16.toUInt32.toInt32)), .val (.ref r_279), .val .null, .val (.ref b393), .val (.int (1 : Int32)), .val (.ref r_429), .unset] []))
          obtain ⟨T431, h431, X431, e431, E431, A431, D431, U431, st431⟩ := newO X423 hx hZ423 hown423 (own_w hw 50 rfl) (own_w hw 51 rfl) (own_w hw 52 rfl) rfl (g := (mkF m 116 #[.val (.int nb), .val (.int ca), .val (.int cb), .val (.int fl), .val (.int ((ca &&& (255 : Int32)).toUInt32.toUInt16.toUInt32.toInt32)), .val (.int ((cb &&& (255 : Int32)).toUInt32.toUInt16.toUInt32.toInt32)), .val (.ref r_279), .val .null, .val (.ref b393), .val (.int (1 : Int32)), .val (.ref r_429), .unset] [])) rfl (hb hby at_116) (by decide) (by decide)
          obtain ⟨b431, g431⟩ : ∃ z, z = T423.heap.size := ⟨_, rfl⟩
          rw [← g431] at A431 D431 U431 st431
          have F431_number : Fld Z h431 b431 own_c_230 "number" "I" (.int (0 : Int32)) := D431 (Or.inr (own_w hw 63 rfl)) (ty := .int) own_lm_207
          have F431_id : Fld Z h431 b431 own_c_230 "id" "Ljava/lang/String;" .null := D431 (Or.inr (own_w hw 65 rfl)) (ty := (.object "java/lang/String")) own_lm_235
          have F431_data : Fld Z h431 b431 own_c_230 "data" "Ljava/lang/String;" .null := D431 (Or.inr (own_w hw 67 rfl)) (ty := (.object "java/lang/String")) own_lm_235
          have F431_manifestations : Fld Z h431 b431 own_c_230 "manifestations" "Ljava/util/List;" .null := D431 (Or.inr (own_w hw 69 rfl)) (ty := (.object "java/util/List")) own_lm_248
          have F431_refusal : Fld Z h431 b431 own_c_230 "refusal" "Ljava/lang/String;" .null := D431 (Or.inr (own_w hw 71 rfl)) (ty := (.object "java/lang/String")) own_lm_235
          refine own_st (fun u_ k_ => st431 u_ k_) ?_
          show own_Go p e below _ (T431.setTop (mkF m 119 #[.val (.int nb), .val (.int ca), .val (.int cb), .val (.int fl), .val (.int ((ca &&& (255 : Int32)).toUInt32.toUInt16.toUInt32.toInt32)), .val (.int ((cb &&& (255 : Int32)).toUInt32.toUInt16.toUInt32.toInt32)), .val (.ref r_279), .val .null, .val (.ref b393), .val (.int (1 : Int32)), .val (.ref r_429), .unset] [(.ref b431)]))
          refine own_st (fun u_ k_ => XS.dup X431.here hx rfl (hb hby at_119) rfl rfl k_) ?_
          refine own_st (fun u_ k_ => XS.iloadN X431.here hx rfl (hb hby at_120) rfl k_) ?_
          show own_Go p e below _ (T431.setTop (mkF m 121 #[.val (.int nb), .val (.int ca), .val (.int cb), .val (.int fl), .val (.int ((ca &&& (255 : Int32)).toUInt32.toUInt16.toUInt32.toInt32)), .val (.int ((cb &&& (255 : Int32)).toUInt32.toUInt16.toUInt32.toInt32)), .val (.ref r_279), .val .null, .val (.ref b393), .val (.int (1 : Int32)), .val (.ref r_429), .unset] [(.int nb), (.ref b431), (.ref b431)]))
          refine own_st (fun u_ k_ => XS.aload X431.here hx rfl (hb hby at_121) rfl rfl k_) ?_
          refine own_st (fun u_ k_ => XS.aload X431.here hx rfl (hb hby at_123) rfl rfl k_) ?_
          show own_Go p e below _ (T431.setTop (mkF m 125 #[.val (.int nb), .val (.int ca), .val (.int cb), .val (.int fl), .val (.int ((ca &&& (255 : Int32)).toUInt32.toUInt16.toUInt32.toInt32)), .val (.int ((cb &&& (255 : Int32)).toUInt32.toUInt16.toUInt32.toInt32)), .val (.ref r_279), .val .null, .val (.ref b393), .val (.int (1 : Int32)), .val (.ref r_429), .unset] [.null, (.ref r_279), (.int nb), (.ref b431), (.ref b431)]))
          refine own_st (fun u_ k_ => XS.aload X431.here hx rfl (hb hby at_125) rfl rfl k_) ?_
          refine own_st (fun u_ k_ => XS.aload X431.here hx rfl (hb hby at_127) rfl rfl k_) ?_
          show own_Go p e below _ (T431.setTop (mkF m 129 #[.val (.int nb), .val (.int ca), .val (.int cb), .val (.int fl), .val (.int ((ca &&& (255 : Int32)).toUInt32.toUInt16.toUInt32.toInt32)), .val (.int ((cb &&& (255 : Int32)).toUInt32.toUInt16.toUInt32.toInt32)), .val (.ref r_279), .val .null, .val (.ref b393), .val (.int (1 : Int32)), .val (.ref r_429), .unset] [(.ref r_429), (.ref b393), .null, (.ref r_279), (.int nb), (.ref b431), (.ref b431)]))
          have O433 : Old Z n0 T423.heap := O424.keep K423 all0
          have g432 : n0 ≤ b431 := Nat.le_trans (own_nl O433) (Nat.le_of_eq g431.symm)
          have O435 : Old Z n0 h431 := O433.ext E431
          obtain ⟨T434, v434, L434, X434, hQ434, st434⟩ := own_callN X431 hx hZ423 (y := own_y_266) rfl hown423 (own_w hw 53 rfl) (own_w hw 54 rfl) (own_w hw 52 rfl) (own_w hw 55 rfl) own_lm_279 (rmDL l Z a0 hw [] wcs wd hS b431 nb ((.ref r_279) : Value) (.null : Value) ((.ref b393) : Value) ((.ref r_429) : Value) h431 n0 O435 A431 g432 rfl rfl rfl rfl F431_number F431_id F431_data F431_manifestations F431_refusal) e431 own_pd_280 (a := b431) (argsL := [(.int nb), (.ref r_279), .null, (.ref b393), (.ref r_429)]) (rest := [(.ref b431)]) rfl rfl (g := (mkF m 129 #[.val (.int nb), .val (.int ca), .val (.int cb), .val (.int fl), .val (.int ((ca &&& (255 : Int32)).toUInt32.toUInt16.toUInt32.toInt32)), .val (.int ((cb &&& (255 : Int32)).toUInt32.toUInt16.toUInt32.toInt32)), .val (.ref r_279), .val .null, .val (.ref b393), .val (.int (1 : Int32)), .val (.ref r_429), .unset] [(.ref r_429), (.ref b393), .null, (.ref r_279), (.int nb), (.ref b431), (.ref b431)])) rfl (by rw [hml]; rfl) rfl (hb hby at_129) (W := 1) rfl (by decide) (by decide) (by decide) (by decide)
          obtain ⟨rfl, M434, K434, F436, F437⟩ := hQ434
          have N434 := Fr.app N423 M434
          refine own_st (fun u_ k_ => st434 u_ k_) ?_
          show own_Go p e below _ (T434.setTop (mkF m 132 #[.val (.int nb), .val (.int ca), .val (.int cb), .val (.int fl), .val (.int ((ca &&& (255 : Int32)).toUInt32.toUInt16.toUInt32.toInt32)), .val (.int ((cb &&& (255 : Int32)).toUInt32.toUInt16.toUInt32.toInt32)), .val (.ref r_279), .val .null, .val (.ref b393), .val (.int (1 : Int32)), .val (.ref r_429), .unset] [(.ref b431)]))
          refine own_st (fun u_ k_ => XS.astore X434.here hx rfl (hb hby at_132) rfl rfl (l' := #[.val (.int nb), .val (.int ca), .val (.int cb), .val (.int fl), .val (.int ((ca &&& (255 : Int32)).toUInt32.toUInt16.toUInt32.toInt32)), .val (.int ((cb &&& (255 : Int32)).toUInt32.toUInt16.toUInt32.toInt32)), .val (.ref r_279), .val .null, .val (.ref b393), .val (.int (1 : Int32)), .val (.ref r_429), .val (.ref b431)]) rfl k_) ?_
          refine own_st (fun u_ k_ => XS.aload X434.here hx rfl (hb hby at_134) rfl rfl k_) ?_
          show own_Go p e below _ (T434.setTop (mkF m 136 #[.val (.int nb), .val (.int ca), .val (.int cb), .val (.int fl), .val (.int ((ca &&& (255 : Int32)).toUInt32.toUInt16.toUInt32.toInt32)), .val (.int ((cb &&& (255 : Int32)).toUInt32.toUInt16.toUInt32.toInt32)), .val (.ref r_279), .val .null, .val (.ref b393), .val (.int (1 : Int32)), .val (.ref r_429), .val (.ref b431)] [(.ref b431)]))
          have O439 : Old Z n0 T434.heap := O435.keep K434 (allS g432 all0)
          obtain ⟨T438, v438, L438, X438, hQ438, st438⟩ := own_callV X434 hx hZ423 (y := own_y_273) (z := own_y_273) hown423 (own_w hw 72 rfl) (own_w hw 73 rfl) (notFace_of_selects (args := #[]) (mvT hZ423 (own_w hw 75 rfl))) (own_w hw 75 rfl) (own_w hw 74 rfl) (own_w hw 52 rfl) (own_w hw 76 rfl) own_lm_279 (rmIR l Z a0 hw [] wcs wd hS b431 r_429 T434.heap n0 O439 F437) rfl F436 own_pd_281 (argsL := []) (rest := []) rfl rfl (g := (mkF m 136 #[.val (.int nb), .val (.int ca), .val (.int cb), .val (.int fl), .val (.int ((ca &&& (255 : Int32)).toUInt32.toUInt16.toUInt32.toInt32)), .val (.int ((cb &&& (255 : Int32)).toUInt32.toUInt16.toUInt32.toInt32)), .val (.ref r_279), .val .null, .val (.ref b393), .val (.int (1 : Int32)), .val (.ref r_429), .val (.ref b431)] [(.ref b431)])) rfl (by rw [hml]; rfl) rfl (hb hby at_136) (W := 0) rfl (by decide) (by decide) (by decide) (by decide)
          obtain ⟨rfl, M438, e438⟩ := hQ438
          have N438 := Fr.app N434 M438
          refine own_st (fun u_ k_ => st438 u_ k_) ?_
          show own_Go p e below _ (T438.setTop (mkF m 139 #[.val (.int nb), .val (.int ca), .val (.int cb), .val (.int fl), .val (.int ((ca &&& (255 : Int32)).toUInt32.toUInt16.toUInt32.toInt32)), .val (.int ((cb &&& (255 : Int32)).toUInt32.toUInt16.toUInt32.toInt32)), .val (.ref r_279), .val .null, .val (.ref b393), .val (.int (1 : Int32)), .val (.ref r_429), .val (.ref b431)] [(.int (1 : Int32))]))
          refine own_st (fun u_ k_ => XS.iload X438.here hx rfl (hb hby at_139) rfl k_) ?_
          refine own_st (fun u_ k_ => XS.icmpNo X438.here hx rfl (hb hby at_141) rfl (XT.ii_ne_f (by decide)) k_) ?_
          show own_Go p e below _ (T438.setTop (mkF m 144 #[.val (.int nb), .val (.int ca), .val (.int cb), .val (.int fl), .val (.int ((ca &&& (255 : Int32)).toUInt32.toUInt16.toUInt32.toInt32)), .val (.int ((cb &&& (255 : Int32)).toUInt32.toUInt16.toUInt32.toInt32)), .val (.ref r_279), .val .null, .val (.ref b393), .val (.int (1 : Int32)), .val (.ref r_429), .val (.ref b431)] []))
          refine own_st (fun u_ k_ => XS.iconst X438.here hx rfl (hb hby at_144) k_) ?_
          refine own_st (fun u_ k_ => XS.goto X438.here hx rfl (pc0 := 145) (pc' := 149) rfl (hb hby at_145) (by decide) (by decide) k_) ?_
          show own_Go p e below _ (T438.setTop (mkF m 149 #[.val (.int nb), .val (.int ca), .val (.int cb), .val (.int fl), .val (.int ((ca &&& (255 : Int32)).toUInt32.toUInt16.toUInt32.toInt32)), .val (.int ((cb &&& (255 : Int32)).toUInt32.toUInt16.toUInt32.toInt32)), .val (.ref r_279), .val .null, .val (.ref b393), .val (.int (1 : Int32)), .val (.ref r_429), .val (.ref b431)] [(.int (1 : Int32))]))
          have K440 : Keep h0 T278.heap [] := (Keep.refl h0 []).trans K278 all0
          have K441 : Keep h0 h393 [] := K440.ext E393
          have z443 : h0.size ≤ b393 := Nat.le_trans K278.1 (Nat.le_of_eq g393.symm)
          have K442 : Keep h0 T396.heap [] := K441.trans K396 (allS (Or.inr z443) all0)
          have K444 : Keep h0 T423.heap [] := K442.trans K423 all0
          have K445 : Keep h0 h431 [] := K444.ext E431
          have z447 : h0.size ≤ b431 := Nat.le_trans (Nat.le_trans (Nat.le_trans (Nat.le_trans K278.1 E393.1) K396.1) K423.1) (Nat.le_of_eq g431.symm)
          have K446 : Keep h0 T434.heap [] := K445.trans K434 (allS (Or.inr z447) all0)
          have R448 : CHr Z own_EL s.vm h0 T423.vm T423.heap := R427.trans hr423
          have R449 : CHr Z own_EL s.vm h0 T423.vm h431 := R448.trans (CHr.ext E431 R448.1)
          have sf_451 : Safe Z own_EL T423.vm h431 b431 := Safe.exa hZ423.alike A431 own_lm_284 own_lm_285
          have R450 : CHr Z own_EL s.vm h0 T423.vm T434.heap := R449.trans (CHr.keep K434 (sfS sf_451 sf0) R449.1)
          exact own_retXH X438 Si423 (Nat.le_trans (Nat.le_refl _) (Nat.le_trans E431.1 K434.1)) e438 hZ423 (own_hEL hw) hs0 R450 hx hlk hret rfl (Or.inl ⟨rfl, by simp, _, rfl⟩) (hb hby at_149) (by decide) (by decide) (show Qrm0 Z wcs wd nb ca cb fl h0 n0 (some (.int (1 : Int32))) T438.heap _ from (by rw [e438]; exact ⟨rfl, N438, K446⟩))
      · refine own_st (fun u_ k_ => XS.ifNo X278.here hx rfl (hb hby at_64) rfl (XT.i0_eq_f hc392) k_) ?_
        show own_Go p e below _ (T278.setTop (mkF m 67 #[.val (.int nb), .val (.int ca), .val (.int cb), .val (.int fl), .val (.int ((ca &&& (255 : Int32)).toUInt32.toUInt16.toUInt32.toInt32)), .val (.int ((cb &&& (255 : Int32)).toUInt32.toUInt16.toUInt32.toInt32)), .val (.ref r_279), .val .null, .unset, .unset, .unset, .unset] []))
        refine own_st (fun u_ k_ => XS.aconstNull X278.here hx rfl (hb hby at_67) k_) ?_
        refine own_st (fun u_ k_ => XS.goto X278.here hx rfl (pc0 := 68) (pc' := 78) rfl (hb hby at_68) (by decide) (by decide) k_) ?_
        show own_Go p e below _ (T278.setTop (mkF m 78 #[.val (.int nb), .val (.int ca), .val (.int cb), .val (.int fl), .val (.int ((ca &&& (255 : Int32)).toUInt32.toUInt16.toUInt32.toInt32)), .val (.int ((cb &&& (255 : Int32)).toUInt32.toUInt16.toUInt32.toInt32)), .val (.ref r_279), .val .null, .unset, .unset, .unset, .unset] [.null]))
        refine own_st (fun u_ k_ => XS.astore X278.here hx rfl (hb hby at_78) rfl rfl (l' := #[.val (.int nb), .val (.int ca), .val (.int cb), .val (.int fl), .val (.int ((ca &&& (255 : Int32)).toUInt32.toUInt16.toUInt32.toInt32)), .val (.int ((cb &&& (255 : Int32)).toUInt32.toUInt16.toUInt32.toInt32)), .val (.ref r_279), .val .null, .val .null, .unset, .unset, .unset]) rfl k_) ?_
        refine own_st (fun u_ k_ => XS.iloadN X278.here hx rfl (hb hby at_80) rfl k_) ?_
        show own_Go p e below _ (T278.setTop (mkF m 81 #[.val (.int nb), .val (.int ca), .val (.int cb), .val (.int fl), .val (.int ((ca &&& (255 : Int32)).toUInt32.toUInt16.toUInt32.toInt32)), .val (.int ((cb &&& (255 : Int32)).toUInt32.toUInt16.toUInt32.toInt32)), .val (.ref r_279), .val .null, .val .null, .unset, .unset, .unset] [(.int fl)]))
        refine own_st (fun u_ k_ => XS.bipush X278.here hx rfl (hb hby at_81) k_) ?_
        refine own_st (fun u_ k_ => XS.iand X278.here hx rfl (hb hby at_83) rfl k_) ?_
        show own_Go p e below _ (T278.setTop (mkF m 84 #[.val (.int nb), .val (.int ca), .val (.int cb), .val (.int fl), .val (.int ((ca &&& (255 : Int32)).toUInt32.toUInt16.toUInt32.toInt32)), .val (.int ((cb &&& (255 : Int32)).toUInt32.toUInt16.toUInt32.toInt32)), .val (.ref r_279), .val .null, .val .null, .unset, .unset, .unset] [(.int (fl &&& (8 : Int32)))]))
        by_cases hc452 : (fl &&& (8 : Int32)) = (0 : Int32)
        · refine own_st (fun u_ k_ => XS.ifYes X278.here hx rfl (pc0 := 84) (pc' := 91) rfl (hb hby at_84) rfl (XT.i0_eq_t hc452) (by decide) (by decide) k_) ?_
          refine own_st (fun u_ k_ => XS.iconst X278.here hx rfl (hb hby at_91) k_) ?_
          show own_Go p e below _ (T278.setTop (mkF m 92 #[.val (.int nb), .val (.int ca), .val (.int cb), .val (.int fl), .val (.int ((ca &&& (255 : Int32)).toUInt32.toUInt16.toUInt32.toInt32)), .val (.int ((cb &&& (255 : Int32)).toUInt32.toUInt16.toUInt32.toInt32)), .val (.ref r_279), .val .null, .val .null, .unset, .unset, .unset] [(.int (0 : Int32))]))
          refine own_st (fun u_ k_ => XS.istore X278.here hx rfl (hb hby at_92) rfl (l' := #[.val (.int nb), .val (.int ca), .val (.int cb), .val (.int fl), .val (.int ((ca &&& (255 : Int32)).toUInt32.toUInt16.toUInt32.toInt32)), .val (.int ((cb &&& (255 : Int32)).toUInt32.toUInt16.toUInt32.toInt32)), .val (.ref r_279), .val .null, .val .null, .val (.int (0 : Int32)), .unset, .unset]) rfl k_) ?_
          refine own_st (fun u_ k_ => XS.iload X278.here hx rfl (hb hby at_94) rfl k_) ?_
          show own_Go p e below _ (T278.setTop (mkF m 96 #[.val (.int nb), .val (.int ca), .val (.int cb), .val (.int fl), .val (.int ((ca &&& (255 : Int32)).toUInt32.toUInt16.toUInt32.toInt32)), .val (.int ((cb &&& (255 : Int32)).toUInt32.toUInt16.toUInt32.toInt32)), .val (.ref r_279), .val .null, .val .null, .val (.int (0 : Int32)), .unset, .unset] [(.int (0 : Int32))]))
          refine own_st (fun u_ k_ => XS.ifYes X278.here hx rfl (pc0 := 96) (pc' := 113) rfl (hb hby at_96) rfl (XT.i0_eq_t (by decide)) (by decide) (by decide) k_) ?_
          refine own_st (fun u_ k_ => XS.aconstNull X278.here hx rfl (hb hby at_113) k_) ?_
          show own_Go p e below _ (T278.setTop (mkF m 114 #[.val (.int nb), .val (.int ca), .val (.int cb), .val (.int fl), .val (.int ((ca &&& (255 : Int32)).toUInt32.toUInt16.toUInt32.toInt32)), .val (.int ((cb &&& (255 : Int32)).toUInt32.toUInt16.toUInt32.toInt32)), .val (.ref r_279), .val .null, .val .null, .val (.int (0 : Int32)), .unset, .unset] [.null]))
          refine own_st (fun u_ k_ => XS.astore X278.here hx rfl (hb hby at_114) rfl rfl (l' := #[.val (.int nb), .val (.int ca), .val (.int cb), .val (.int fl), .val (.int ((ca &&& (255 : Int32)).toUInt32.toUInt16.toUInt32.toInt32)), .val (.int ((cb &&& (255 : Int32)).toUInt32.toUInt16.toUInt32.toInt32)), .val (.ref r_279), .val .null, .val .null, .val (.int (0 : Int32)), .val .null, .unset]) rfl k_) ?_
          obtain ⟨T453, h453, X453, e453, E453, A453, D453, U453, st453⟩ := newO X278 hx hZ278 hown278 (own_w hw 50 rfl) (own_w hw 51 rfl) (own_w hw 52 rfl) rfl (g := (mkF m 116 #[.val (.int nb), .val (.int ca), .val (.int cb), .val (.int fl), .val (.int ((ca &&& (255 : Int32)).toUInt32.toUInt16.toUInt32.toInt32)), .val (.int ((cb &&& (255 : Int32)).toUInt32.toUInt16.toUInt32.toInt32)), .val (.ref r_279), .val .null, .val .null, .val (.int (0 : Int32)), .val .null, .unset] [])) rfl (hb hby at_116) (by decide) (by decide)
          obtain ⟨b453, g453⟩ : ∃ z, z = T278.heap.size := ⟨_, rfl⟩
          rw [← g453] at A453 D453 U453 st453
          have F453_number : Fld Z h453 b453 own_c_230 "number" "I" (.int (0 : Int32)) := D453 (Or.inr (own_w hw 63 rfl)) (ty := .int) own_lm_207
          have F453_id : Fld Z h453 b453 own_c_230 "id" "Ljava/lang/String;" .null := D453 (Or.inr (own_w hw 65 rfl)) (ty := (.object "java/lang/String")) own_lm_235
          have F453_data : Fld Z h453 b453 own_c_230 "data" "Ljava/lang/String;" .null := D453 (Or.inr (own_w hw 67 rfl)) (ty := (.object "java/lang/String")) own_lm_235
          have F453_manifestations : Fld Z h453 b453 own_c_230 "manifestations" "Ljava/util/List;" .null := D453 (Or.inr (own_w hw 69 rfl)) (ty := (.object "java/util/List")) own_lm_248
          have F453_refusal : Fld Z h453 b453 own_c_230 "refusal" "Ljava/lang/String;" .null := D453 (Or.inr (own_w hw 71 rfl)) (ty := (.object "java/lang/String")) own_lm_235
          refine own_st (fun u_ k_ => st453 u_ k_) ?_
          show own_Go p e below _ (T453.setTop (mkF m 119 #[.val (.int nb), .val (.int ca), .val (.int cb), .val (.int fl), .val (.int ((ca &&& (255 : Int32)).toUInt32.toUInt16.toUInt32.toInt32)), .val (.int ((cb &&& (255 : Int32)).toUInt32.toUInt16.toUInt32.toInt32)), .val (.ref r_279), .val .null, .val .null, .val (.int (0 : Int32)), .val .null, .unset] [(.ref b453)]))
          refine own_st (fun u_ k_ => XS.dup X453.here hx rfl (hb hby at_119) rfl rfl k_) ?_
          refine own_st (fun u_ k_ => XS.iloadN X453.here hx rfl (hb hby at_120) rfl k_) ?_
          show own_Go p e below _ (T453.setTop (mkF m 121 #[.val (.int nb), .val (.int ca), .val (.int cb), .val (.int fl), .val (.int ((ca &&& (255 : Int32)).toUInt32.toUInt16.toUInt32.toInt32)), .val (.int ((cb &&& (255 : Int32)).toUInt32.toUInt16.toUInt32.toInt32)), .val (.ref r_279), .val .null, .val .null, .val (.int (0 : Int32)), .val .null, .unset] [(.int nb), (.ref b453), (.ref b453)]))
          refine own_st (fun u_ k_ => XS.aload X453.here hx rfl (hb hby at_121) rfl rfl k_) ?_
          refine own_st (fun u_ k_ => XS.aload X453.here hx rfl (hb hby at_123) rfl rfl k_) ?_
          show own_Go p e below _ (T453.setTop (mkF m 125 #[.val (.int nb), .val (.int ca), .val (.int cb), .val (.int fl), .val (.int ((ca &&& (255 : Int32)).toUInt32.toUInt16.toUInt32.toInt32)), .val (.int ((cb &&& (255 : Int32)).toUInt32.toUInt16.toUInt32.toInt32)), .val (.ref r_279), .val .null, .val .null, .val (.int (0 : Int32)), .val .null, .unset] [.null, (.ref r_279), (.int nb), (.ref b453), (.ref b453)]))
          refine own_st (fun u_ k_ => XS.aload X453.here hx rfl (hb hby at_125) rfl rfl k_) ?_
          refine own_st (fun u_ k_ => XS.aload X453.here hx rfl (hb hby at_127) rfl rfl k_) ?_
          show own_Go p e below _ (T453.setTop (mkF m 129 #[.val (.int nb), .val (.int ca), .val (.int cb), .val (.int fl), .val (.int ((ca &&& (255 : Int32)).toUInt32.toUInt16.toUInt32.toInt32)), .val (.int ((cb &&& (255 : Int32)).toUInt32.toUInt16.toUInt32.toInt32)), .val (.ref r_279), .val .null, .val .null, .val (.int (0 : Int32)), .val .null, .unset] [.null, .null, .null, (.ref r_279), (.int nb), (.ref b453), (.ref b453)]))
          have O455 : Old Z n0 T278.heap := O0.keep K278 all0
          have g454 : n0 ≤ b453 := Nat.le_trans (own_nl O455) (Nat.le_of_eq g453.symm)
          have O457 : Old Z n0 h453 := O455.ext E453
          obtain ⟨T456, v456, L456, X456, hQ456, st456⟩ := own_callN X453 hx hZ278 (y := own_y_266) rfl hown278 (own_w hw 53 rfl) (own_w hw 54 rfl) (own_w hw 52 rfl) (own_w hw 55 rfl) own_lm_279 (rmDL l Z a0 hw [] wcs wd hS b453 nb ((.ref r_279) : Value) (.null : Value) (.null : Value) (.null : Value) h453 n0 O457 A453 g454 rfl rfl rfl rfl F453_number F453_id F453_data F453_manifestations F453_refusal) e453 own_pd_280 (a := b453) (argsL := [(.int nb), (.ref r_279), .null, .null, .null]) (rest := [(.ref b453)]) rfl rfl (g := (mkF m 129 #[.val (.int nb), .val (.int ca), .val (.int cb), .val (.int fl), .val (.int ((ca &&& (255 : Int32)).toUInt32.toUInt16.toUInt32.toInt32)), .val (.int ((cb &&& (255 : Int32)).toUInt32.toUInt16.toUInt32.toInt32)), .val (.ref r_279), .val .null, .val .null, .val (.int (0 : Int32)), .val .null, .unset] [.null, .null, .null, (.ref r_279), (.int nb), (.ref b453), (.ref b453)])) rfl (by rw [hml]; rfl) rfl (hb hby at_129) (W := 1) rfl (by decide) (by decide) (by decide) (by decide)
          obtain ⟨rfl, M456, K456, F458, F459⟩ := hQ456
          have N456 := Fr.app N278 M456
          refine own_st (fun u_ k_ => st456 u_ k_) ?_
          show own_Go p e below _ (T456.setTop (mkF m 132 #[.val (.int nb), .val (.int ca), .val (.int cb), .val (.int fl), .val (.int ((ca &&& (255 : Int32)).toUInt32.toUInt16.toUInt32.toInt32)), .val (.int ((cb &&& (255 : Int32)).toUInt32.toUInt16.toUInt32.toInt32)), .val (.ref r_279), .val .null, .val .null, .val (.int (0 : Int32)), .val .null, .unset] [(.ref b453)]))
          refine own_st (fun u_ k_ => XS.astore X456.here hx rfl (hb hby at_132) rfl rfl (l' := #[.val (.int nb), .val (.int ca), .val (.int cb), .val (.int fl), .val (.int ((ca &&& (255 : Int32)).toUInt32.toUInt16.toUInt32.toInt32)), .val (.int ((cb &&& (255 : Int32)).toUInt32.toUInt16.toUInt32.toInt32)), .val (.ref r_279), .val .null, .val .null, .val (.int (0 : Int32)), .val .null, .val (.ref b453)]) rfl k_) ?_
          refine own_st (fun u_ k_ => XS.aload X456.here hx rfl (hb hby at_134) rfl rfl k_) ?_
          show own_Go p e below _ (T456.setTop (mkF m 136 #[.val (.int nb), .val (.int ca), .val (.int cb), .val (.int fl), .val (.int ((ca &&& (255 : Int32)).toUInt32.toUInt16.toUInt32.toInt32)), .val (.int ((cb &&& (255 : Int32)).toUInt32.toUInt16.toUInt32.toInt32)), .val (.ref r_279), .val .null, .val .null, .val (.int (0 : Int32)), .val .null, .val (.ref b453)] [(.ref b453)]))
          have O461 : Old Z n0 T456.heap := O457.keep K456 (allS g454 all0)
          obtain ⟨T460, v460, L460, X460, hQ460, st460⟩ := own_callV X456 hx hZ278 (y := own_y_273) (z := own_y_273) hown278 (own_w hw 72 rfl) (own_w hw 73 rfl) (notFace_of_selects (args := #[]) (mvT hZ278 (own_w hw 75 rfl))) (own_w hw 75 rfl) (own_w hw 74 rfl) (own_w hw 52 rfl) (own_w hw 76 rfl) own_lm_279 (rmIN l Z a0 hw [] wcs wd hS b453 T456.heap n0 O461 F459) rfl F458 own_pd_281 (argsL := []) (rest := []) rfl rfl (g := (mkF m 136 #[.val (.int nb), .val (.int ca), .val (.int cb), .val (.int fl), .val (.int ((ca &&& (255 : Int32)).toUInt32.toUInt16.toUInt32.toInt32)), .val (.int ((cb &&& (255 : Int32)).toUInt32.toUInt16.toUInt32.toInt32)), .val (.ref r_279), .val .null, .val .null, .val (.int (0 : Int32)), .val .null, .val (.ref b453)] [(.ref b453)])) rfl (by rw [hml]; rfl) rfl (hb hby at_136) (W := 0) rfl (by decide) (by decide) (by decide) (by decide)
          obtain ⟨rfl, M460, e460⟩ := hQ460
          have N460 := Fr.app N456 M460
          refine own_st (fun u_ k_ => st460 u_ k_) ?_
          show own_Go p e below _ (T460.setTop (mkF m 139 #[.val (.int nb), .val (.int ca), .val (.int cb), .val (.int fl), .val (.int ((ca &&& (255 : Int32)).toUInt32.toUInt16.toUInt32.toInt32)), .val (.int ((cb &&& (255 : Int32)).toUInt32.toUInt16.toUInt32.toInt32)), .val (.ref r_279), .val .null, .val .null, .val (.int (0 : Int32)), .val .null, .val (.ref b453)] [(.int (0 : Int32))]))
          refine own_st (fun u_ k_ => XS.iload X460.here hx rfl (hb hby at_139) rfl k_) ?_
          refine own_st (fun u_ k_ => XS.icmpNo X460.here hx rfl (hb hby at_141) rfl (XT.ii_ne_f (by decide)) k_) ?_
          show own_Go p e below _ (T460.setTop (mkF m 144 #[.val (.int nb), .val (.int ca), .val (.int cb), .val (.int fl), .val (.int ((ca &&& (255 : Int32)).toUInt32.toUInt16.toUInt32.toInt32)), .val (.int ((cb &&& (255 : Int32)).toUInt32.toUInt16.toUInt32.toInt32)), .val (.ref r_279), .val .null, .val .null, .val (.int (0 : Int32)), .val .null, .val (.ref b453)] []))
          refine own_st (fun u_ k_ => XS.iconst X460.here hx rfl (hb hby at_144) k_) ?_
          refine own_st (fun u_ k_ => XS.goto X460.here hx rfl (pc0 := 145) (pc' := 149) rfl (hb hby at_145) (by decide) (by decide) k_) ?_
          show own_Go p e below _ (T460.setTop (mkF m 149 #[.val (.int nb), .val (.int ca), .val (.int cb), .val (.int fl), .val (.int ((ca &&& (255 : Int32)).toUInt32.toUInt16.toUInt32.toInt32)), .val (.int ((cb &&& (255 : Int32)).toUInt32.toUInt16.toUInt32.toInt32)), .val (.ref r_279), .val .null, .val .null, .val (.int (0 : Int32)), .val .null, .val (.ref b453)] [(.int (1 : Int32))]))
          have K462 : Keep h0 T278.heap [] := (Keep.refl h0 []).trans K278 all0
          have K463 : Keep h0 h453 [] := K462.ext E453
          have z465 : h0.size ≤ b453 := Nat.le_trans K278.1 (Nat.le_of_eq g453.symm)
          have K464 : Keep h0 T456.heap [] := K463.trans K456 (allS (Or.inr z465) all0)
          have R466 : CHr Z own_EL s.vm h0 T278.vm T278.heap := R0.trans hr278
          have R467 : CHr Z own_EL s.vm h0 T278.vm h453 := R466.trans (CHr.ext E453 R466.1)
          have sf_469 : Safe Z own_EL T278.vm h453 b453 := Safe.exa hZ278.alike A453 own_lm_284 own_lm_285
          have R468 : CHr Z own_EL s.vm h0 T278.vm T456.heap := R467.trans (CHr.keep K456 (sfS sf_469 sf0) R467.1)
          exact own_retXH X460 Si278 (Nat.le_trans (Nat.le_refl _) (Nat.le_trans E453.1 K456.1)) e460 hZ278 (own_hEL hw) hs0 R468 hx hlk hret rfl (Or.inl ⟨rfl, by simp, _, rfl⟩) (hb hby at_149) (by decide) (by decide) (show Qrm0 Z wcs wd nb ca cb fl h0 n0 (some (.int (1 : Int32))) T460.heap _ from (by rw [e460]; exact ⟨rfl, N460, K464⟩))
        · refine own_st (fun u_ k_ => XS.ifNo X278.here hx rfl (hb hby at_84) rfl (XT.i0_eq_f hc452) k_) ?_
          refine own_st (fun u_ k_ => XS.iconst X278.here hx rfl (hb hby at_87) k_) ?_
          show own_Go p e below _ (T278.setTop (mkF m 88 #[.val (.int nb), .val (.int ca), .val (.int cb), .val (.int fl), .val (.int ((ca &&& (255 : Int32)).toUInt32.toUInt16.toUInt32.toInt32)), .val (.int ((cb &&& (255 : Int32)).toUInt32.toUInt16.toUInt32.toInt32)), .val (.ref r_279), .val .null, .val .null, .unset, .unset, .unset] [(.int (1 : Int32))]))
          refine own_st (fun u_ k_ => XS.goto X278.here hx rfl (pc0 := 88) (pc' := 92) rfl (hb hby at_88) (by decide) (by decide) k_) ?_
          refine own_st (fun u_ k_ => XS.istore X278.here hx rfl (hb hby at_92) rfl (l' := #[.val (.int nb), .val (.int ca), .val (.int cb), .val (.int fl), .val (.int ((ca &&& (255 : Int32)).toUInt32.toUInt16.toUInt32.toInt32)), .val (.int ((cb &&& (255 : Int32)).toUInt32.toUInt16.toUInt32.toInt32)), .val (.ref r_279), .val .null, .val .null, .val (.int (1 : Int32)), .unset, .unset]) rfl k_) ?_
          show own_Go p e below _ (T278.setTop (mkF m 94 #[.val (.int nb), .val (.int ca), .val (.int cb), .val (.int fl), .val (.int ((ca &&& (255 : Int32)).toUInt32.toUInt16.toUInt32.toInt32)), .val (.int ((cb &&& (255 : Int32)).toUInt32.toUInt16.toUInt32.toInt32)), .val (.ref r_279), .val .null, .val .null, .val (.int (1 : Int32)), .unset, .unset] []))
          refine own_st (fun u_ k_ => XS.iload X278.here hx rfl (hb hby at_94) rfl k_) ?_
          refine own_st (fun u_ k_ => XS.ifNo X278.here hx rfl (hb hby at_96) rfl (XT.i0_eq_f (by decide)) k_) ?_
          show own_Go p e below _ (T278.setTop (mkF m 99 #[.val (.int nb), .val (.int ca), .val (.int cb), .val (.int fl), .val (.int ((ca &&& (255 : Int32)).toUInt32.toUInt16.toUInt32.toInt32)), .val (.int ((cb &&& (255 : Int32)).toUInt32.toUInt16.toUInt32.toInt32)), .val (.ref r_279), .val .null, .val .null, .val (.int (1 : Int32)), .unset, .unset] []))
          refine own_st (fun u_ k_ => XS.iloadN X278.here hx rfl (hb hby at_99) rfl k_) ?_
          refine own_st (fun u_ k_ => XS.bipush X278.here hx rfl (hb hby at_100) k_) ?_
          show own_Go p e below _ (T278.setTop (mkF m 102 #[.val (.int nb), .val (.int ca), .val (.int cb), .val (.int fl), .val (.int ((ca &&& (255 : Int32)).toUInt32.toUInt16.toUInt32.toInt32)), .val (.int ((cb &&& (255 : Int32)).toUInt32.toUInt16.toUInt32.toInt32)), .val (.ref r_279), .val .null, .val .null, .val (.int (1 : Int32)), .unset, .unset] [(.int (8 : Int32)), (.int fl)]))
          refine own_st (fun u_ k_ => XS.iushr X278.here hx rfl (hb hby at_102) rfl k_) ?_
          refine own_st (fun u_ k_ => XS.iload X278.here hx rfl (hb hby at_103) rfl k_) ?_
          show own_Go p e below _ (T278.setTop (mkF m 105 #[.val (.int nb), .val (.int ca), .val (.int cb), .val (.int fl), .val (.int ((ca &&& (255 : Int32)).toUInt32.toUInt16.toUInt32.toInt32)), .val (.int ((cb &&& (255 : Int32)).toUInt32.toUInt16.toUInt32.toInt32)), .val (.ref r_279), .val .null, .val .null, .val (.int (1 : Int32)), .unset, .unset] [(.int ((ca &&& (255 : Int32)).toUInt32.toUInt16.toUInt32.toInt32)), (.int ((fl.toUInt32 >>> ((8 : Int32) &&& 31).toUInt32).toInt32))]))
          refine own_st (fun u_ k_ => XS.iload X278.here hx rfl (hb hby at_105) rfl k_) ?_
          have O471 : Old Z n0 T278.heap := O0.keep K278 all0
          have R472 : CHr Z own_EL s.vm h0 T278.vm T278.heap := R0.trans hr278
          obtain ⟨T470, v470, L470, X470, Si470, hZ470, hown470, hQ470, hr470, st470⟩ := own_callSH X278 hx hZ278 Si278 (Nat.le_refl _) (own_hEL hw) R472.1 own_sf0 (y := own_y_188) hown278 (own_w hw 0 rfl) (own_w hw 1 rfl) (own_w hw 2 rfl) (own_w hw 3 rfl) own_lm_276 (rmStr l Z a0 hw [] wcs wd hS ((fl.toUInt32 >>> ((8 : Int32) &&& 31).toUInt32).toInt32) ((ca &&& (255 : Int32)).toUInt32.toUInt16.toUInt32.toInt32) ((cb &&& (255 : Int32)).toUInt32.toUInt16.toUInt32.toInt32) T278.heap n0 O471 (own_c255 _) (own_c255n _) (own_c255n _)) rfl own_pd_277 (argsL := [(.int ((fl.toUInt32 >>> ((8 : Int32) &&& 31).toUInt32).toInt32)), (.int ((ca &&& (255 : Int32)).toUInt32.toUInt16.toUInt32.toInt32)), (.int ((cb &&& (255 : Int32)).toUInt32.toUInt16.toUInt32.toInt32))]) (rest := []) rfl rfl (g := (mkF m 107 #[.val (.int nb), .val (.int ca), .val (.int cb), .val (.int fl), .val (.int ((ca &&& (255 : Int32)).toUInt32.toUInt16.toUInt32.toInt32)), .val (.int ((cb &&& (255 : Int32)).toUInt32.toUInt16.toUInt32.toInt32)), .val (.ref r_279), .val .null, .val .null, .val (.int (1 : Int32)), .unset, .unset] [(.int ((cb &&& (255 : Int32)).toUInt32.toUInt16.toUInt32.toInt32)), (.int ((ca &&& (255 : Int32)).toUInt32.toUInt16.toUInt32.toInt32)), (.int ((fl.toUInt32 >>> ((8 : Int32) &&& 31).toUInt32).toInt32))])) rfl (by rw [hml]; rfl) rfl (hb hby at_107) (W := 0) rfl (by decide) (by decide) (by decide) (by decide)
          obtain ⟨r_473, rfl, M470, K470, F474⟩ := hQ470
          have N470 := Fr.app N278 M470
          refine own_st (fun u_ k_ => st470 u_ k_) ?_
          show own_Go p e below _ (T470.setTop (mkF m 110 #[.val (.int nb), .val (.int ca), .val (.int cb), .val (.int fl), .val (.int ((ca &&& (255 : Int32)).toUInt32.toUInt16.toUInt32.toInt32)), .val (.int ((cb &&& (255 : Int32)).toUInt32.toUInt16.toUInt32.toInt32)), .val (.ref r_279), .val .null, .val .null, .val (.int (1 : Int32)), .unset, .unset] [(.ref r_473)]))
          refine own_st (fun u_ k_ => XS.goto X470.here hx rfl (pc0 := 110) (pc' := 114) rfl (hb hby at_110) (by decide) (by decide) k_) ?_
          refine own_st (fun u_ k_ => XS.astore X470.here hx rfl (hb hby at_114) rfl rfl (l' := #[.val (.int nb), .val (.int ca), .val (.int cb), .val (.int fl), .val (.int ((ca &&& (255 : Int32)).toUInt32.toUInt16.toUInt32.toInt32)), .val (.int ((cb &&& (255 : Int32)).toUInt32.toUInt16.toUInt32.toInt32)), .val (.ref r_279), .val .null, .val .null, .val (.int (1 : Int32)), .val (.ref r_473), .unset]) rfl k_) ?_
          show own_Go p e below _ (T470.setTop (mkF m 116 #[.val (.int nb), .val (.int ca), .val (.int cb), .val (.int fl), .val (.int ((ca &&& (255 : Int32)).toUInt32.toUInt16.toUInt32.toInt32)), .val (.int ((cb &&& (255 : Int32)).toUInt32.toUInt16.toUInt32.toInt32)), .val (.ref r_279), .val .null, .val .null, .val (.int (1 : Int32)), .val (.ref r_473), .unset] []))
          obtain ⟨T475, h475, X475, e475, E475, A475, D475, U475, st475⟩ := newO X470 hx hZ470 hown470 (own_w hw 50 rfl) (own_w hw 51 rfl) (own_w hw 52 rfl) rfl (g := (mkF m 116 #[.val (.int nb), .val (.int ca), .val (.int cb), .val (.int fl), .val (.int ((ca &&& (255 : Int32)).toUInt32.toUInt16.toUInt32.toInt32)), .val (.int ((cb &&& (255 : Int32)).toUInt32.toUInt16.toUInt32.toInt32)), .val (.ref r_279), .val .null, .val .null, .val (.int (1 : Int32)), .val (.ref r_473), .unset] [])) rfl (hb hby at_116) (by decide) (by decide)
          obtain ⟨b475, g475⟩ : ∃ z, z = T470.heap.size := ⟨_, rfl⟩
          rw [← g475] at A475 D475 U475 st475
          have F475_number : Fld Z h475 b475 own_c_230 "number" "I" (.int (0 : Int32)) := D475 (Or.inr (own_w hw 63 rfl)) (ty := .int) own_lm_207
          have F475_id : Fld Z h475 b475 own_c_230 "id" "Ljava/lang/String;" .null := D475 (Or.inr (own_w hw 65 rfl)) (ty := (.object "java/lang/String")) own_lm_235
          have F475_data : Fld Z h475 b475 own_c_230 "data" "Ljava/lang/String;" .null := D475 (Or.inr (own_w hw 67 rfl)) (ty := (.object "java/lang/String")) own_lm_235
          have F475_manifestations : Fld Z h475 b475 own_c_230 "manifestations" "Ljava/util/List;" .null := D475 (Or.inr (own_w hw 69 rfl)) (ty := (.object "java/util/List")) own_lm_248
          have F475_refusal : Fld Z h475 b475 own_c_230 "refusal" "Ljava/lang/String;" .null := D475 (Or.inr (own_w hw 71 rfl)) (ty := (.object "java/lang/String")) own_lm_235
          refine own_st (fun u_ k_ => st475 u_ k_) ?_
          show own_Go p e below _ (T475.setTop (mkF m 119 #[.val (.int nb), .val (.int ca), .val (.int cb), .val (.int fl), .val (.int ((ca &&& (255 : Int32)).toUInt32.toUInt16.toUInt32.toInt32)), .val (.int ((cb &&& (255 : Int32)).toUInt32.toUInt16.toUInt32.toInt32)), .val (.ref r_279), .val .null, .val .null, .val (.int (1 : Int32)), .val (.ref r_473), .unset] [(.ref b475)]))
          refine own_st (fun u_ k_ => XS.dup X475.here hx rfl (hb hby at_119) rfl rfl k_) ?_
          refine own_st (fun u_ k_ => XS.iloadN X475.here hx rfl (hb hby at_120) rfl k_) ?_
          show own_Go p e below _ (T475.setTop (mkF m 121 #[.val (.int nb), .val (.int ca), .val (.int cb), .val (.int fl), .val (.int ((ca &&& (255 : Int32)).toUInt32.toUInt16.toUInt32.toInt32)), .val (.int ((cb &&& (255 : Int32)).toUInt32.toUInt16.toUInt32.toInt32)), .val (.ref r_279), .val .null, .val .null, .val (.int (1 : Int32)), .val (.ref r_473), .unset] [(.int nb), (.ref b475), (.ref b475)]))
          refine own_st (fun u_ k_ => XS.aload X475.here hx rfl (hb hby at_121) rfl rfl k_) ?_
          refine own_st (fun u_ k_ => XS.aload X475.here hx rfl (hb hby at_123) rfl rfl k_) ?_
          show own_Go p e below _ (T475.setTop (mkF m 125 #[.val (.int nb), .val (.int ca), .val (.int cb), .val (.int fl), .val (.int ((ca &&& (255 : Int32)).toUInt32.toUInt16.toUInt32.toInt32)), .val (.int ((cb &&& (255 : Int32)).toUInt32.toUInt16.toUInt32.toInt32)), .val (.ref r_279), .val .null, .val .null, .val (.int (1 : Int32)), .val (.ref r_473), .unset] [.null, (.ref r_279), (.int nb), (.ref b475), (.ref b475)]))
          refine own_st (fun u_ k_ => XS.aload X475.here hx rfl (hb hby at_125) rfl rfl k_) ?_
          refine own_st (fun u_ k_ => XS.aload X475.here hx rfl (hb hby at_127) rfl rfl k_) ?_
          show own_Go p e below _ (T475.setTop (mkF m 129 #[.val (.int nb), .val (.int ca), .val (.int cb), .val (.int fl), .val (.int ((ca &&& (255 : Int32)).toUInt32.toUInt16.toUInt32.toInt32)), .val (.int ((cb &&& (255 : Int32)).toUInt32.toUInt16.toUInt32.toInt32)), .val (.ref r_279), .val .null, .val .null, .val (.int (1 : Int32)), .val (.ref r_473), .unset] [(.ref r_473), .null, .null, (.ref r_279), (.int nb), (.ref b475), (.ref b475)]))
          have O477 : Old Z n0 T470.heap := O471.keep K470 all0
          have g476 : n0 ≤ b475 := Nat.le_trans (own_nl O477) (Nat.le_of_eq g475.symm)
          have O479 : Old Z n0 h475 := O477.ext E475
          obtain ⟨T478, v478, L478, X478, hQ478, st478⟩ := own_callN X475 hx hZ470 (y := own_y_266) rfl hown470 (own_w hw 53 rfl) (own_w hw 54 rfl) (own_w hw 52 rfl) (own_w hw 55 rfl) own_lm_279 (rmDL l Z a0 hw [] wcs wd hS b475 nb ((.ref r_279) : Value) (.null : Value) (.null : Value) ((.ref r_473) : Value) h475 n0 O479 A475 g476 rfl rfl rfl rfl F475_number F475_id F475_data F475_manifestations F475_refusal) e475 own_pd_280 (a := b475) (argsL := [(.int nb), (.ref r_279), .null, .null, (.ref r_473)]) (rest := [(.ref b475)]) rfl rfl (g := (mkF m 129 #[.val (.int nb), .val (.int ca), .val (.int cb), .val (.int fl), .val (.int ((ca &&& (255 : Int32)).toUInt32.toUInt16.toUInt32.toInt32)), .val (.int ((cb &&& (255 : Int32)).toUInt32.toUInt16.toUInt32.toInt32)), .val (.ref r_279), .val .null, .val .null, .val (.int (1 : Int32)), .val (.ref r_473), .unset] [(.ref r_473), .null, .null, (.ref r_279), (.int nb), (.ref b475), (.ref b475)])) rfl (by rw [hml]; rfl) rfl (hb hby at_129) (W := 1) rfl (by decide) (by decide) (by decide) (by decide)
          obtain ⟨rfl, M478, K478, F480, F481⟩ := hQ478
          have N478 := Fr.app N470 M478
          refine own_st (fun u_ k_ => st478 u_ k_) ?_
          show own_Go p e below _ (T478.setTop (mkF m 132 #[.val (.int nb), .val (.int ca), .val (.int cb), .val (.int fl), .val (.int ((ca &&& (255 : Int32)).toUInt32.toUInt16.toUInt32.toInt32)), .val (.int ((cb &&& (255 : Int32)).toUInt32.toUInt16.toUInt32.toInt32)), .val (.ref r_279), .val .null, .val .null, .val (.int (1 : Int32)), .val (.ref r_473), .unset] [(.ref b475)]))
          refine own_st (fun u_ k_ => XS.astore X478.here hx rfl (hb hby at_132) rfl rfl (l' := #[.val (.int nb), .val (.int ca), .val (.int cb), .val (.int fl), .val (.int ((ca &&& (255 : Int32)).toUInt32.toUInt16.toUInt32.toInt32)), .val (.int ((cb &&& (255 : Int32)).toUInt32.toUInt16.toUInt32.toInt32)), .val (.ref r_279), .val .null, .val .null, .val (.int (1 : Int32)), .val (.ref r_473), .val (.ref b475)]) rfl k_) ?_
          refine own_st (fun u_ k_ => XS.aload X478.here hx rfl (hb hby at_134) rfl rfl k_) ?_
          show own_Go p e below _ (T478.setTop (mkF m 136 #[.val (.int nb), .val (.int ca), .val (.int cb), .val (.int fl), .val (.int ((ca &&& (255 : Int32)).toUInt32.toUInt16.toUInt32.toInt32)), .val (.int ((cb &&& (255 : Int32)).toUInt32.toUInt16.toUInt32.toInt32)), .val (.ref r_279), .val .null, .val .null, .val (.int (1 : Int32)), .val (.ref r_473), .val (.ref b475)] [(.ref b475)]))
          have O483 : Old Z n0 T478.heap := O479.keep K478 (allS g476 all0)
          obtain ⟨T482, v482, L482, X482, hQ482, st482⟩ := own_callV X478 hx hZ470 (y := own_y_273) (z := own_y_273) hown470 (own_w hw 72 rfl) (own_w hw 73 rfl) (notFace_of_selects (args := #[]) (mvT hZ470 (own_w hw 75 rfl))) (own_w hw 75 rfl) (own_w hw 74 rfl) (own_w hw 52 rfl) (own_w hw 76 rfl) own_lm_279 (rmIR l Z a0 hw [] wcs wd hS b475 r_473 T478.heap n0 O483 F481) rfl F480 own_pd_281 (argsL := []) (rest := []) rfl rfl (g := (mkF m 136 #[.val (.int nb), .val (.int ca), .val (.int cb), .val (.int fl), .val (.int ((ca &&& (255 : Int32)).toUInt32.toUInt16.toUInt32.toInt32)), .val (.int ((cb &&& (255 : Int32)).toUInt32.toUInt16.toUInt32.toInt32)), .val (.ref r_279), .val .null, .val .null, .val (.int (1 : Int32)), .val (.ref r_473), .val (.ref b475)] [(.ref b475)])) rfl (by rw [hml]; rfl) rfl (hb hby at_136) (W := 0) rfl (by decide) (by decide) (by decide) (by decide)
          obtain ⟨rfl, M482, e482⟩ := hQ482
          have N482 := Fr.app N478 M482
          refine own_st (fun u_ k_ => st482 u_ k_) ?_
          show own_Go p e below _ (T482.setTop (mkF m 139 #[.val (.int nb), .val (.int ca), .val (.int cb), .val (.int fl), .val (.int ((ca &&& (255 : Int32)).toUInt32.toUInt16.toUInt32.toInt32)), .val (.int ((cb &&& (255 : Int32)).toUInt32.toUInt16.toUInt32.toInt32)), .val (.ref r_279), .val .null, .val .null, .val (.int (1 : Int32)), .val (.ref r_473), .val (.ref b475)] [(.int (1 : Int32))]))
          refine own_st (fun u_ k_ => XS.iload X482.here hx rfl (hb hby at_139) rfl k_) ?_
          refine own_st (fun u_ k_ => XS.icmpNo X482.here hx rfl (hb hby at_141) rfl (XT.ii_ne_f (by decide)) k_) ?_
          show own_Go p e below _ (T482.setTop (mkF m 144 #[.val (.int nb), .val (.int ca), .val (.int cb), .val (.int fl), .val (.int ((ca &&& (255 : Int32)).toUInt32.toUInt16.toUInt32.toInt32)), .val (.int ((cb &&& (255 : Int32)).toUInt32.toUInt16.toUInt32.toInt32)), .val (.ref r_279), .val .null, .val .null, .val (.int (1 : Int32)), .val (.ref r_473), .val (.ref b475)] []))
          refine own_st (fun u_ k_ => XS.iconst X482.here hx rfl (hb hby at_144) k_) ?_
          refine own_st (fun u_ k_ => XS.goto X482.here hx rfl (pc0 := 145) (pc' := 149) rfl (hb hby at_145) (by decide) (by decide) k_) ?_
          show own_Go p e below _ (T482.setTop (mkF m 149 #[.val (.int nb), .val (.int ca), .val (.int cb), .val (.int fl), .val (.int ((ca &&& (255 : Int32)).toUInt32.toUInt16.toUInt32.toInt32)), .val (.int ((cb &&& (255 : Int32)).toUInt32.toUInt16.toUInt32.toInt32)), .val (.ref r_279), .val .null, .val .null, .val (.int (1 : Int32)), .val (.ref r_473), .val (.ref b475)] [(.int (1 : Int32))]))
          have K484 : Keep h0 T278.heap [] := (Keep.refl h0 []).trans K278 all0
          have K485 : Keep h0 T470.heap [] := K484.trans K470 all0
          have K486 : Keep h0 h475 [] := K485.ext E475
          have z488 : h0.size ≤ b475 := Nat.le_trans (Nat.le_trans K278.1 K470.1) (Nat.le_of_eq g475.symm)
          have K487 : Keep h0 T478.heap [] := K486.trans K478 (allS (Or.inr z488) all0)
          have R489 : CHr Z own_EL s.vm h0 T470.vm T470.heap := R472.trans hr470
          have R490 : CHr Z own_EL s.vm h0 T470.vm h475 := R489.trans (CHr.ext E475 R489.1)
          have sf_492 : Safe Z own_EL T470.vm h475 b475 := Safe.exa hZ470.alike A475 own_lm_284 own_lm_285
          have R491 : CHr Z own_EL s.vm h0 T470.vm T478.heap := R490.trans (CHr.keep K478 (sfS sf_492 sf0) R490.1)
          exact own_retXH X482 Si470 (Nat.le_trans (Nat.le_refl _) (Nat.le_trans E475.1 K478.1)) e482 hZ470 (own_hEL hw) hs0 R491 hx hlk hret rfl (Or.inl ⟨rfl, by simp, _, rfl⟩) (hb hby at_149) (by decide) (by decide) (show Qrm0 Z wcs wd nb ca cb fl h0 n0 (some (.int (1 : Int32))) T482.heap _ from (by rw [e482]; exact ⟨rfl, N482, K487⟩))
  · refine own_st (fun u_ k_ => XS.ifNo X0.here hx rfl (hb hby at_19) rfl (XT.i0_eq_f hc277) k_) ?_
    show own_Go p e below _ (s₁.setTop (mkF m 22 #[.val (.int nb), .val (.int ca), .val (.int cb), .val (.int fl), .val (.int ((ca &&& (255 : Int32)).toUInt32.toUInt16.toUInt32.toInt32)), .val (.int ((cb &&& (255 : Int32)).toUInt32.toUInt16.toUInt32.toInt32)), .unset, .unset, .unset, .unset, .unset, .unset] []))
    refine own_st (fun u_ k_ => XS.aconstNull X0.here hx rfl (hb hby at_22) k_) ?_
    refine own_st (fun u_ k_ => XS.goto X0.here hx rfl (pc0 := 23) (pc' := 36) rfl (hb hby at_23) (by decide) (by decide) k_) ?_
    show own_Go p e below _ (s₁.setTop (mkF m 36 #[.val (.int nb), .val (.int ca), .val (.int cb), .val (.int fl), .val (.int ((ca &&& (255 : Int32)).toUInt32.toUInt16.toUInt32.toInt32)), .val (.int ((cb &&& (255 : Int32)).toUInt32.toUInt16.toUInt32.toInt32)), .unset, .unset, .unset, .unset, .unset, .unset] [.null]))
    refine own_st (fun u_ k_ => XS.astore X0.here hx rfl (hb hby at_36) rfl rfl (l' := #[.val (.int nb), .val (.int ca), .val (.int cb), .val (.int fl), .val (.int ((ca &&& (255 : Int32)).toUInt32.toUInt16.toUInt32.toInt32)), .val (.int ((cb &&& (255 : Int32)).toUInt32.toUInt16.toUInt32.toInt32)), .val .null, .unset, .unset, .unset, .unset, .unset]) rfl k_) ?_
    refine own_st (fun u_ k_ => XS.iloadN X0.here hx rfl (hb hby at_38) rfl k_) ?_
    show own_Go p e below _ (s₁.setTop (mkF m 39 #[.val (.int nb), .val (.int ca), .val (.int cb), .val (.int fl), .val (.int ((ca &&& (255 : Int32)).toUInt32.toUInt16.toUInt32.toInt32)), .val (.int ((cb &&& (255 : Int32)).toUInt32.toUInt16.toUInt32.toInt32)), .val .null, .unset, .unset, .unset, .unset, .unset] [(.int fl)]))
    refine own_st (fun u_ k_ => XS.iconst X0.here hx rfl (hb hby at_39) k_) ?_
    refine own_st (fun u_ k_ => XS.iand X0.here hx rfl (hb hby at_40) rfl k_) ?_
    show own_Go p e below _ (s₁.setTop (mkF m 41 #[.val (.int nb), .val (.int ca), .val (.int cb), .val (.int fl), .val (.int ((ca &&& (255 : Int32)).toUInt32.toUInt16.toUInt32.toInt32)), .val (.int ((cb &&& (255 : Int32)).toUInt32.toUInt16.toUInt32.toInt32)), .val .null, .unset, .unset, .unset, .unset, .unset] [(.int (fl &&& (2 : Int32)))]))
    by_cases hc493 : (fl &&& (2 : Int32)) = (0 : Int32)
    · refine own_st (fun u_ k_ => XS.ifYes X0.here hx rfl (pc0 := 41) (pc' := 48) rfl (hb hby at_41) rfl (XT.i0_eq_t hc493) (by decide) (by decide) k_) ?_
      refine own_st (fun u_ k_ => XS.iloadN X0.here hx rfl (hb hby at_48) rfl k_) ?_
      show own_Go p e below _ (s₁.setTop (mkF m 49 #[.val (.int nb), .val (.int ca), .val (.int cb), .val (.int fl), .val (.int ((ca &&& (255 : Int32)).toUInt32.toUInt16.toUInt32.toInt32)), .val (.int ((cb &&& (255 : Int32)).toUInt32.toUInt16.toUInt32.toInt32)), .val .null, .unset, .unset, .unset, .unset, .unset] [(.int fl)]))
      refine own_st (fun u_ k_ => XS.bipush X0.here hx rfl (hb hby at_49) k_) ?_
      refine own_st (fun u_ k_ => XS.iushr X0.here hx rfl (hb hby at_51) rfl k_) ?_
      show own_Go p e below _ (s₁.setTop (mkF m 52 #[.val (.int nb), .val (.int ca), .val (.int cb), .val (.int fl), .val (.int ((ca &&& (255 : Int32)).toUInt32.toUInt16.toUInt32.toInt32)), .val (.int ((cb &&& (255 : Int32)).toUInt32.toUInt16.toUInt32.toInt32)), .val .null, .unset, .unset, .unset, .unset, .unset] [(.int ((fl.toUInt32 >>> ((6 : Int32) &&& 31).toUInt32).toInt32))]))
      refine own_st (fun u_ k_ => XS.iload X0.here hx rfl (hb hby at_52) rfl k_) ?_
      refine own_st (fun u_ k_ => XS.iload X0.here hx rfl (hb hby at_54) rfl k_) ?_
      show own_Go p e below _ (s₁.setTop (mkF m 56 #[.val (.int nb), .val (.int ca), .val (.int cb), .val (.int fl), .val (.int ((ca &&& (255 : Int32)).toUInt32.toUInt16.toUInt32.toInt32)), .val (.int ((cb &&& (255 : Int32)).toUInt32.toUInt16.toUInt32.toInt32)), .val .null, .unset, .unset, .unset, .unset, .unset] [(.int ((ca &&& (255 : Int32)).toUInt32.toUInt16.toUInt32.toInt32)), (.int ((cb &&& (255 : Int32)).toUInt32.toUInt16.toUInt32.toInt32)), (.int ((fl.toUInt32 >>> ((6 : Int32) &&& 31).toUInt32).toInt32))]))
      obtain ⟨T494, v494, L494, X494, Si494, hZ494, hown494, hQ494, hr494, st494⟩ := own_callSH X0 hx hZ hSi0 (Nat.zero_le _) (own_hEL hw) R0.1 own_sf0 (y := own_y_188) hown (own_w hw 0 rfl) (own_w hw 1 rfl) (own_w hw 2 rfl) (own_w hw 3 rfl) own_lm_276 (rmStr l Z a0 hw [] wcs wd hS ((fl.toUInt32 >>> ((6 : Int32) &&& 31).toUInt32).toInt32) ((cb &&& (255 : Int32)).toUInt32.toUInt16.toUInt32.toInt32) ((ca &&& (255 : Int32)).toUInt32.toUInt16.toUInt32.toInt32) h0 n0 O0 (own_c255 _) (own_c255n _) (own_c255n _)) e0 own_pd_277 (argsL := [(.int ((fl.toUInt32 >>> ((6 : Int32) &&& 31).toUInt32).toInt32)), (.int ((cb &&& (255 : Int32)).toUInt32.toUInt16.toUInt32.toInt32)), (.int ((ca &&& (255 : Int32)).toUInt32.toUInt16.toUInt32.toInt32))]) (rest := []) rfl rfl (g := (mkF m 56 #[.val (.int nb), .val (.int ca), .val (.int cb), .val (.int fl), .val (.int ((ca &&& (255 : Int32)).toUInt32.toUInt16.toUInt32.toInt32)), .val (.int ((cb &&& (255 : Int32)).toUInt32.toUInt16.toUInt32.toInt32)), .val .null, .unset, .unset, .unset, .unset, .unset] [(.int ((ca &&& (255 : Int32)).toUInt32.toUInt16.toUInt32.toInt32)), (.int ((cb &&& (255 : Int32)).toUInt32.toUInt16.toUInt32.toInt32)), (.int ((fl.toUInt32 >>> ((6 : Int32) &&& 31).toUInt32).toInt32))])) rfl (by rw [hml]; rfl) rfl (hb hby at_56) (W := 0) rfl (by decide) (by decide) (by decide) (by decide)
      obtain ⟨r_495, rfl, M494, K494, F496⟩ := hQ494
      have N494 := Fr.app N0 M494
      refine own_st (fun u_ k_ => st494 u_ k_) ?_
      show own_Go p e below _ (T494.setTop (mkF m 59 #[.val (.int nb), .val (.int ca), .val (.int cb), .val (.int fl), .val (.int ((ca &&& (255 : Int32)).toUInt32.toUInt16.toUInt32.toInt32)), .val (.int ((cb &&& (255 : Int32)).toUInt32.toUInt16.toUInt32.toInt32)), .val .null, .unset, .unset, .unset, .unset, .unset] [(.ref r_495)]))
      refine own_st (fun u_ k_ => XS.astore X494.here hx rfl (hb hby at_59) rfl rfl (l' := #[.val (.int nb), .val (.int ca), .val (.int cb), .val (.int fl), .val (.int ((ca &&& (255 : Int32)).toUInt32.toUInt16.toUInt32.toInt32)), .val (.int ((cb &&& (255 : Int32)).toUInt32.toUInt16.toUInt32.toInt32)), .val .null, .val (.ref r_495), .unset, .unset, .unset, .unset]) rfl k_) ?_
      refine own_st (fun u_ k_ => XS.iloadN X494.here hx rfl (hb hby at_61) rfl k_) ?_
      show own_Go p e below _ (T494.setTop (mkF m 62 #[.val (.int nb), .val (.int ca), .val (.int cb), .val (.int fl), .val (.int ((ca &&& (255 : Int32)).toUInt32.toUInt16.toUInt32.toInt32)), .val (.int ((cb &&& (255 : Int32)).toUInt32.toUInt16.toUInt32.toInt32)), .val .null, .val (.ref r_495), .unset, .unset, .unset, .unset] [(.int fl)]))
      refine own_st (fun u_ k_ => XS.iconst X494.here hx rfl (hb hby at_62) k_) ?_
      refine own_st (fun u_ k_ => XS.iand X494.here hx rfl (hb hby at_63) rfl k_) ?_
      show own_Go p e below _ (T494.setTop (mkF m 64 #[.val (.int nb), .val (.int ca), .val (.int cb), .val (.int fl), .val (.int ((ca &&& (255 : Int32)).toUInt32.toUInt16.toUInt32.toInt32)), .val (.int ((cb &&& (255 : Int32)).toUInt32.toUInt16.toUInt32.toInt32)), .val .null, .val (.ref r_495), .unset, .unset, .unset, .unset] [(.int (fl &&& (4 : Int32)))]))
      by_cases hc497 : (fl &&& (4 : Int32)) = (0 : Int32)
      · refine own_st (fun u_ k_ => XS.ifYes X494.here hx rfl (pc0 := 64) (pc' := 71) rfl (hb hby at_64) rfl (XT.i0_eq_t hc497) (by decide) (by decide) k_) ?_
        obtain ⟨T498, h498, X498, e498, E498, A498, D498, U498, st498⟩ := newO X494 hx hZ494 hown494 (own_w hw 26 rfl) (own_w hw 27 rfl) (own_w hw 28 rfl) rfl (g := (mkF m 71 #[.val (.int nb), .val (.int ca), .val (.int cb), .val (.int fl), .val (.int ((ca &&& (255 : Int32)).toUInt32.toUInt16.toUInt32.toInt32)), .val (.int ((cb &&& (255 : Int32)).toUInt32.toUInt16.toUInt32.toInt32)), .val .null, .val (.ref r_495), .unset, .unset, .unset, .unset] [])) rfl (hb hby at_71) (by decide) (by decide)
        obtain ⟨b498, g498⟩ : ∃ z, z = T494.heap.size := ⟨_, rfl⟩
        rw [← g498] at A498 D498 U498 st498
        have F498_modCount : Fld Z h498 b498 own_c_208 "modCount" "I" (.int (0 : Int32)) := D498 (Or.inl (own_w hw 46 rfl)) (ty := .int) own_lm_207
        have F498_elementData : Fld Z h498 b498 "java/util/ArrayList" "elementData" "[Ljava/lang/Object;" .null := D498 (Or.inl (own_w hw 49 rfl)) (ty := (.array (.object "java/lang/Object"))) own_lm_211
        refine own_st (fun u_ k_ => st498 u_ k_) ?_
        show own_Go p e below _ (T498.setTop (mkF m 74 #[.val (.int nb), .val (.int ca), .val (.int cb), .val (.int fl), .val (.int ((ca &&& (255 : Int32)).toUInt32.toUInt16.toUInt32.toInt32)), .val (.int ((cb &&& (255 : Int32)).toUInt32.toUInt16.toUInt32.toInt32)), .val .null, .val (.ref r_495), .unset, .unset, .unset, .unset] [(.ref b498)]))
        refine own_st (fun u_ k_ => XS.dup X498.here hx rfl (hb hby at_74) rfl rfl k_) ?_
        have O500 : Old Z n0 T494.heap := O0.keep K494 all0
        have g499 : n0 ≤ b498 := Nat.le_trans (own_nl O500) (Nat.le_of_eq g498.symm)
        have O502 : Old Z n0 h498 := O500.ext E498
        obtain ⟨T501, v501, L501, X501, hQ501, st501⟩ := own_callN X498 hx hZ494 (y := own_y_222) rfl hown494 (own_w hw 29 rfl) (own_w hw 30 rfl) (own_w hw 28 rfl) (own_w hw 31 rfl) own_lm_278 (rmAL l Z a0 hw [] wcs wd hS b498 h498 n0 O502 A498 g499 F498_modCount F498_elementData) e498 own_pd_203 (a := b498) (argsL := []) (rest := [(.ref b498)]) rfl rfl (g := (mkF m 75 #[.val (.int nb), .val (.int ca), .val (.int cb), .val (.int fl), .val (.int ((ca &&& (255 : Int32)).toUInt32.toUInt16.toUInt32.toInt32)), .val (.int ((cb &&& (255 : Int32)).toUInt32.toUInt16.toUInt32.toInt32)), .val .null, .val (.ref r_495), .unset, .unset, .unset, .unset] [(.ref b498), (.ref b498)])) rfl (by rw [hml]; rfl) rfl (hb hby at_75) (W := 1) rfl (by decide) (by decide) (by decide) (by decide)
        obtain ⟨rfl, M501, K501, F503⟩ := hQ501
        have N501 := Fr.app N494 M501
        refine own_st (fun u_ k_ => st501 u_ k_) ?_
        show own_Go p e below _ (T501.setTop (mkF m 78 #[.val (.int nb), .val (.int ca), .val (.int cb), .val (.int fl), .val (.int ((ca &&& (255 : Int32)).toUInt32.toUInt16.toUInt32.toInt32)), .val (.int ((cb &&& (255 : Int32)).toUInt32.toUInt16.toUInt32.toInt32)), .val .null, .val (.ref r_495), .unset, .unset, .unset, .unset] [(.ref b498)]))
        refine own_st (fun u_ k_ => XS.astore X501.here hx rfl (hb hby at_78) rfl rfl (l' := #[.val (.int nb), .val (.int ca), .val (.int cb), .val (.int fl), .val (.int ((ca &&& (255 : Int32)).toUInt32.toUInt16.toUInt32.toInt32)), .val (.int ((cb &&& (255 : Int32)).toUInt32.toUInt16.toUInt32.toInt32)), .val .null, .val (.ref r_495), .val (.ref b498), .unset, .unset, .unset]) rfl k_) ?_
        refine own_st (fun u_ k_ => XS.iloadN X501.here hx rfl (hb hby at_80) rfl k_) ?_
        show own_Go p e below _ (T501.setTop (mkF m 81 #[.val (.int nb), .val (.int ca), .val (.int cb), .val (.int fl), .val (.int ((ca &&& (255 : Int32)).toUInt32.toUInt16.toUInt32.toInt32)), .val (.int ((cb &&& (255 : Int32)).toUInt32.toUInt16.toUInt32.toInt32)), .val .null, .val (.ref r_495), .val (.ref b498), .unset, .unset, .unset] [(.int fl)]))
        refine own_st (fun u_ k_ => XS.bipush X501.here hx rfl (hb hby at_81) k_) ?_
        refine own_st (fun u_ k_ => XS.iand X501.here hx rfl (hb hby at_83) rfl k_) ?_
        show own_Go p e below _ (T501.setTop (mkF m 84 #[.val (.int nb), .val (.int ca), .val (.int cb), .val (.int fl), .val (.int ((ca &&& (255 : Int32)).toUInt32.toUInt16.toUInt32.toInt32)), .val (.int ((cb &&& (255 : Int32)).toUInt32.toUInt16.toUInt32.toInt32)), .val .null, .val (.ref r_495), .val (.ref b498), .unset, .unset, .unset] [(.int (fl &&& (8 : Int32)))]))
        by_cases hc504 : (fl &&& (8 : Int32)) = (0 : Int32)
        · refine own_st (fun u_ k_ => XS.ifYes X501.here hx rfl (pc0 := 84) (pc' := 91) rfl (hb hby at_84) rfl (XT.i0_eq_t hc504) (by decide) (by decide) k_) ?_
          refine own_st (fun u_ k_ => XS.iconst X501.here hx rfl (hb hby at_91) k_) ?_
          show own_Go p e below _ (T501.setTop (mkF m 92 #[.val (.int nb), .val (.int ca), .val (.int cb), .val (.int fl), .val (.int ((ca &&& (255 : Int32)).toUInt32.toUInt16.toUInt32.toInt32)), .val (.int ((cb &&& (255 : Int32)).toUInt32.toUInt16.toUInt32.toInt32)), .val .null, .val (.ref r_495), .val (.ref b498), .unset, .unset, .unset] [(.int (0 : Int32))]))
          refine own_st (fun u_ k_ => XS.istore X501.here hx rfl (hb hby at_92) rfl (l' := #[.val (.int nb), .val (.int ca), .val (.int cb), .val (.int fl), .val (.int ((ca &&& (255 : Int32)).toUInt32.toUInt16.toUInt32.toInt32)), .val (.int ((cb &&& (255 : Int32)).toUInt32.toUInt16.toUInt32.toInt32)), .val .null, .val (.ref r_495), .val (.ref b498), .val (.int (0 : Int32)), .unset, .unset]) rfl k_) ?_
          refine own_st (fun u_ k_ => XS.iload X501.here hx rfl (hb hby at_94) rfl k_) ?_
          show own_Go p e below _ (T501.setTop (mkF m 96 #[.val (.int nb), .val (.int ca), .val (.int cb), .val (.int fl), .val (.int ((ca &&& (255 : Int32)).toUInt32.toUInt16.toUInt32.toInt32)), .val (.int ((cb &&& (255 : Int32)).toUInt32.toUInt16.toUInt32.toInt32)), .val .null, .val (.ref r_495), .val (.ref b498), .val (.int (0 : Int32)), .unset, .unset] [(.int (0 : Int32))]))
          refine own_st (fun u_ k_ => XS.ifYes X501.here hx rfl (pc0 := 96) (pc' := 113) rfl (hb hby at_96) rfl (XT.i0_eq_t (by decide)) (by decide) (by decide) k_) ?_
          refine own_st (fun u_ k_ => XS.aconstNull X501.here hx rfl (hb hby at_113) k_) ?_
          show own_Go p e below _ (T501.setTop (mkF m 114 #[.val (.int nb), .val (.int ca), .val (.int cb), .val (.int fl), .val (.int ((ca &&& (255 : Int32)).toUInt32.toUInt16.toUInt32.toInt32)), .val (.int ((cb &&& (255 : Int32)).toUInt32.toUInt16.toUInt32.toInt32)), .val .null, .val (.ref r_495), .val (.ref b498), .val (.int (0 : Int32)), .unset, .unset] [.null]))
          refine own_st (fun u_ k_ => XS.astore X501.here hx rfl (hb hby at_114) rfl rfl (l' := #[.val (.int nb), .val (.int ca), .val (.int cb), .val (.int fl), .val (.int ((ca &&& (255 : Int32)).toUInt32.toUInt16.toUInt32.toInt32)), .val (.int ((cb &&& (255 : Int32)).toUInt32.toUInt16.toUInt32.toInt32)), .val .null, .val (.ref r_495), .val (.ref b498), .val (.int (0 : Int32)), .val .null, .unset]) rfl k_) ?_
          obtain ⟨T505, h505, X505, e505, E505, A505, D505, U505, st505⟩ := newO X501 hx hZ494 hown494 (own_w hw 50 rfl) (own_w hw 51 rfl) (own_w hw 52 rfl) rfl (g := (mkF m 116 #[.val (.int nb), .val (.int ca), .val (.int cb), .val (.int fl), .val (.int ((ca &&& (255 : Int32)).toUInt32.toUInt16.toUInt32.toInt32)), .val (.int ((cb &&& (255 : Int32)).toUInt32.toUInt16.toUInt32.toInt32)), .val .null, .val (.ref r_495), .val (.ref b498), .val (.int (0 : Int32)), .val .null, .unset] [])) rfl (hb hby at_116) (by decide) (by decide)
          obtain ⟨b505, g505⟩ : ∃ z, z = T501.heap.size := ⟨_, rfl⟩
          rw [← g505] at A505 D505 U505 st505
          have F505_number : Fld Z h505 b505 own_c_230 "number" "I" (.int (0 : Int32)) := D505 (Or.inr (own_w hw 63 rfl)) (ty := .int) own_lm_207
          have F505_id : Fld Z h505 b505 own_c_230 "id" "Ljava/lang/String;" .null := D505 (Or.inr (own_w hw 65 rfl)) (ty := (.object "java/lang/String")) own_lm_235
          have F505_data : Fld Z h505 b505 own_c_230 "data" "Ljava/lang/String;" .null := D505 (Or.inr (own_w hw 67 rfl)) (ty := (.object "java/lang/String")) own_lm_235
          have F505_manifestations : Fld Z h505 b505 own_c_230 "manifestations" "Ljava/util/List;" .null := D505 (Or.inr (own_w hw 69 rfl)) (ty := (.object "java/util/List")) own_lm_248
          have F505_refusal : Fld Z h505 b505 own_c_230 "refusal" "Ljava/lang/String;" .null := D505 (Or.inr (own_w hw 71 rfl)) (ty := (.object "java/lang/String")) own_lm_235
          refine own_st (fun u_ k_ => st505 u_ k_) ?_
          show own_Go p e below _ (T505.setTop (mkF m 119 #[.val (.int nb), .val (.int ca), .val (.int cb), .val (.int fl), .val (.int ((ca &&& (255 : Int32)).toUInt32.toUInt16.toUInt32.toInt32)), .val (.int ((cb &&& (255 : Int32)).toUInt32.toUInt16.toUInt32.toInt32)), .val .null, .val (.ref r_495), .val (.ref b498), .val (.int (0 : Int32)), .val .null, .unset] [(.ref b505)]))
          refine own_st (fun u_ k_ => XS.dup X505.here hx rfl (hb hby at_119) rfl rfl k_) ?_
          refine own_st (fun u_ k_ => XS.iloadN X505.here hx rfl (hb hby at_120) rfl k_) ?_
          show own_Go p e below _ (T505.setTop (mkF m 121 #[.val (.int nb), .val (.int ca), .val (.int cb), .val (.int fl), .val (.int ((ca &&& (255 : Int32)).toUInt32.toUInt16.toUInt32.toInt32)), .val (.int ((cb &&& (255 : Int32)).toUInt32.toUInt16.toUInt32.toInt32)), .val .null, .val (.ref r_495), .val (.ref b498), .val (.int (0 : Int32)), .val .null, .unset] [(.int nb), (.ref b505), (.ref b505)]))
          refine own_st (fun u_ k_ => XS.aload X505.here hx rfl (hb hby at_121) rfl rfl k_) ?_
          refine own_st (fun u_ k_ => XS.aload X505.here hx rfl (hb hby at_123) rfl rfl k_) ?_
          show own_Go p e below _ (T505.setTop (mkF m 125 #[.val (.int nb), .val (.int ca), .val (.int cb), .val (.int fl), .val (.int ((ca &&& (255 : Int32)).toUInt32.toUInt16.toUInt32.toInt32)), .val (.int ((cb &&& (255 : Int32)).toUInt32.toUInt16.toUInt32.toInt32)), .val .null, .val (.ref r_495), .val (.ref b498), .val (.int (0 : Int32)), .val .null, .unset] [(.ref r_495), .null, (.int nb), (.ref b505), (.ref b505)]))
          refine own_st (fun u_ k_ => XS.aload X505.here hx rfl (hb hby at_125) rfl rfl k_) ?_
          refine own_st (fun u_ k_ => XS.aload X505.here hx rfl (hb hby at_127) rfl rfl k_) ?_
          show own_Go p e below _ (T505.setTop (mkF m 129 #[.val (.int nb), .val (.int ca), .val (.int cb), .val (.int fl), .val (.int ((ca &&& (255 : Int32)).toUInt32.toUInt16.toUInt32.toInt32)), .val (.int ((cb &&& (255 : Int32)).toUInt32.toUInt16.toUInt32.toInt32)), .val .null, .val (.ref r_495), .val (.ref b498), .val (.int (0 : Int32)), .val .null, .unset] [.null, (.ref b498), (.ref r_495), .null, (.int nb), (.ref b505), (.ref b505)]))
          have O507 : Old Z n0 T501.heap := O502.keep K501 (allS g499 all0)
          have g506 : n0 ≤ b505 := Nat.le_trans (own_nl O507) (Nat.le_of_eq g505.symm)
          have O509 : Old Z n0 h505 := O507.ext E505
          obtain ⟨T508, v508, L508, X508, hQ508, st508⟩ := own_callN X505 hx hZ494 (y := own_y_266) rfl hown494 (own_w hw 53 rfl) (own_w hw 54 rfl) (own_w hw 52 rfl) (own_w hw 55 rfl) own_lm_279 (rmDL l Z a0 hw [] wcs wd hS b505 nb (.null : Value) ((.ref r_495) : Value) ((.ref b498) : Value) (.null : Value) h505 n0 O509 A505 g506 rfl rfl rfl rfl F505_number F505_id F505_data F505_manifestations F505_refusal) e505 own_pd_280 (a := b505) (argsL := [(.int nb), .null, (.ref r_495), (.ref b498), .null]) (rest := [(.ref b505)]) rfl rfl (g := (mkF m 129 #[.val (.int nb), .val (.int ca), .val (.int cb), .val (.int fl), .val (.int ((ca &&& (255 : Int32)).toUInt32.toUInt16.toUInt32.toInt32)), .val (.int ((cb &&& (255 : Int32)).toUInt32.toUInt16.toUInt32.toInt32)), .val .null, .val (.ref r_495), .val (.ref b498), .val (.int (0 : Int32)), .val .null, .unset] [.null, (.ref b498), (.ref r_495), .null, (.int nb), (.ref b505), (.ref b505)])) rfl (by rw [hml]; rfl) rfl (hb hby at_129) (W := 1) rfl (by decide) (by decide) (by decide) (by decide)
          obtain ⟨rfl, M508, K508, F510, F511⟩ := hQ508
          have N508 := Fr.app N501 M508
          refine own_st (fun u_ k_ => st508 u_ k_) ?_
          show own_Go p e below _ (T508.setTop (mkF m 132 #[.val (.int nb), .val (.int ca), .val (.int cb), .val (.int fl), .val (.int ((ca &&& (255 : Int32)).toUInt32.toUInt16.toUInt32.toInt32)), .val (.int ((cb &&& (255 : Int32)).toUInt32.toUInt16.toUInt32.toInt32)), .val .null, .val (.ref r_495), .val (.ref b498), .val (.int (0 : Int32)), .val .null, .unset] [(.ref b505)]))
          refine own_st (fun u_ k_ => XS.astore X508.here hx rfl (hb hby at_132) rfl rfl (l' := #[.val (.int nb), .val (.int ca), .val (.int cb), .val (.int fl), .val (.int ((ca &&& (255 : Int32)).toUInt32.toUInt16.toUInt32.toInt32)), .val (.int ((cb &&& (255 : Int32)).toUInt32.toUInt16.toUInt32.toInt32)), .val .null, .val (.ref r_495), .val (.ref b498), .val (.int (0 : Int32)), .val .null, .val (.ref b505)]) rfl k_) ?_
          refine own_st (fun u_ k_ => XS.aload X508.here hx rfl (hb hby at_134) rfl rfl k_) ?_
          show own_Go p e below _ (T508.setTop (mkF m 136 #[.val (.int nb), .val (.int ca), .val (.int cb), .val (.int fl), .val (.int ((ca &&& (255 : Int32)).toUInt32.toUInt16.toUInt32.toInt32)), .val (.int ((cb &&& (255 : Int32)).toUInt32.toUInt16.toUInt32.toInt32)), .val .null, .val (.ref r_495), .val (.ref b498), .val (.int (0 : Int32)), .val .null, .val (.ref b505)] [(.ref b505)]))
          have O513 : Old Z n0 T508.heap := O509.keep K508 (allS g506 all0)
          obtain ⟨T512, v512, L512, X512, hQ512, st512⟩ := own_callV X508 hx hZ494 (y := own_y_273) (z := own_y_273) hown494 (own_w hw 72 rfl) (own_w hw 73 rfl) (notFace_of_selects (args := #[]) (mvT hZ494 (own_w hw 75 rfl))) (own_w hw 75 rfl) (own_w hw 74 rfl) (own_w hw 52 rfl) (own_w hw 76 rfl) own_lm_279 (rmIN l Z a0 hw [] wcs wd hS b505 T508.heap n0 O513 F511) rfl F510 own_pd_281 (argsL := []) (rest := []) rfl rfl (g := (mkF m 136 #[.val (.int nb), .val (.int ca), .val (.int cb), .val (.int fl), .val (.int ((ca &&& (255 : Int32)).toUInt32.toUInt16.toUInt32.toInt32)), .val (.int ((cb &&& (255 : Int32)).toUInt32.toUInt16.toUInt32.toInt32)), .val .null, .val (.ref r_495), .val (.ref b498), .val (.int (0 : Int32)), .val .null, .val (.ref b505)] [(.ref b505)])) rfl (by rw [hml]; rfl) rfl (hb hby at_136) (W := 0) rfl (by decide) (by decide) (by decide) (by decide)
          obtain ⟨rfl, M512, e512⟩ := hQ512
          have N512 := Fr.app N508 M512
          refine own_st (fun u_ k_ => st512 u_ k_) ?_
          show own_Go p e below _ (T512.setTop (mkF m 139 #[.val (.int nb), .val (.int ca), .val (.int cb), .val (.int fl), .val (.int ((ca &&& (255 : Int32)).toUInt32.toUInt16.toUInt32.toInt32)), .val (.int ((cb &&& (255 : Int32)).toUInt32.toUInt16.toUInt32.toInt32)), .val .null, .val (.ref r_495), .val (.ref b498), .val (.int (0 : Int32)), .val .null, .val (.ref b505)] [(.int (0 : Int32))]))
          refine own_st (fun u_ k_ => XS.iload X512.here hx rfl (hb hby at_139) rfl k_) ?_
          refine own_st (fun u_ k_ => XS.icmpNo X512.here hx rfl (hb hby at_141) rfl (XT.ii_ne_f (by decide)) k_) ?_
          show own_Go p e below _ (T512.setTop (mkF m 144 #[.val (.int nb), .val (.int ca), .val (.int cb), .val (.int fl), .val (.int ((ca &&& (255 : Int32)).toUInt32.toUInt16.toUInt32.toInt32)), .val (.int ((cb &&& (255 : Int32)).toUInt32.toUInt16.toUInt32.toInt32)), .val .null, .val (.ref r_495), .val (.ref b498), .val (.int (0 : Int32)), .val .null, .val (.ref b505)] []))
          refine own_st (fun u_ k_ => XS.iconst X512.here hx rfl (hb hby at_144) k_) ?_
          refine own_st (fun u_ k_ => XS.goto X512.here hx rfl (pc0 := 145) (pc' := 149) rfl (hb hby at_145) (by decide) (by decide) k_) ?_
          show own_Go p e below _ (T512.setTop (mkF m 149 #[.val (.int nb), .val (.int ca), .val (.int cb), .val (.int fl), .val (.int ((ca &&& (255 : Int32)).toUInt32.toUInt16.toUInt32.toInt32)), .val (.int ((cb &&& (255 : Int32)).toUInt32.toUInt16.toUInt32.toInt32)), .val .null, .val (.ref r_495), .val (.ref b498), .val (.int (0 : Int32)), .val .null, .val (.ref b505)] [(.int (1 : Int32))]))
          have K514 : Keep h0 T494.heap [] := (Keep.refl h0 []).trans K494 all0
          have K515 : Keep h0 h498 [] := K514.ext E498
          have z517 : h0.size ≤ b498 := Nat.le_trans K494.1 (Nat.le_of_eq g498.symm)
          have K516 : Keep h0 T501.heap [] := K515.trans K501 (allS (Or.inr z517) all0)
          have K518 : Keep h0 h505 [] := K516.ext E505
          have z520 : h0.size ≤ b505 := Nat.le_trans (Nat.le_trans (Nat.le_trans K494.1 E498.1) K501.1) (Nat.le_of_eq g505.symm)
          have K519 : Keep h0 T508.heap [] := K518.trans K508 (allS (Or.inr z520) all0)
          have R521 : CHr Z own_EL s.vm h0 T494.vm T494.heap := R0.trans hr494
          have R522 : CHr Z own_EL s.vm h0 T494.vm h498 := R521.trans (CHr.ext E498 R521.1)
          have sf_524 : Safe Z own_EL T494.vm h498 b498 := Safe.exa hZ494.alike A498 own_lm_282 own_lm_283
          have R523 : CHr Z own_EL s.vm h0 T494.vm T501.heap := R522.trans (CHr.keep K501 (sfS sf_524 sf0) R522.1)
          have R525 : CHr Z own_EL s.vm h0 T494.vm h505 := R523.trans (CHr.ext E505 R523.1)
          have sf_527 : Safe Z own_EL T494.vm h505 b505 := Safe.exa hZ494.alike A505 own_lm_284 own_lm_285
          have R526 : CHr Z own_EL s.vm h0 T494.vm T508.heap := R525.trans (CHr.keep K508 (sfS sf_527 sf0) R525.1)
          exact own_retXH X512 Si494 (Nat.le_trans (Nat.le_refl _) (Nat.le_trans (Nat.le_trans (Nat.le_trans E498.1 K501.1) E505.1) K508.1)) e512 hZ494 (own_hEL hw) hs0 R526 hx hlk hret rfl (Or.inl ⟨rfl, by simp, _, rfl⟩) (hb hby at_149) (by decide) (by decide) (show Qrm0 Z wcs wd nb ca cb fl h0 n0 (some (.int (1 : Int32))) T512.heap _ from (by rw [e512]; exact ⟨rfl, N512, K519⟩))
        · refine own_st (fun u_ k_ => XS.ifNo X501.here hx rfl (hb hby at_84) rfl (XT.i0_eq_f hc504) k_) ?_
          refine own_st (fun u_ k_ => XS.iconst X501.here hx rfl (hb hby at_87) k_) ?_
          show own_Go p e below _ (T501.setTop (mkF m 88 #[.val (.int nb), .val (.int ca), .val (.int cb), .val (.int fl), .val (.int ((ca &&& (255 : Int32)).toUInt32.toUInt16.toUInt32.toInt32)), .val (.int ((cb &&& (255 : Int32)).toUInt32.toUInt16.toUInt32.toInt32)), .val .null, .val (.ref r_495), .val (.ref b498), .unset, .unset, .unset] [(.int (1 : Int32))]))
          refine own_st (fun u_ k_ => XS.goto X501.here hx rfl (pc0 := 88) (pc' := 92) rfl (hb hby at_88) (by decide) (by decide) k_) ?_
          refine own_st (fun u_ k_ => XS.istore X501.here hx rfl (hb hby at_92) rfl (l' := #[.val (.int nb), .val (.int ca), .val (.int cb), .val (.int fl), .val (.int ((ca &&& (255 : Int32)).toUInt32.toUInt16.toUInt32.toInt32)), .val (.int ((cb &&& (255 : Int32)).toUInt32.toUInt16.toUInt32.toInt32)), .val .null, .val (.ref r_495), .val (.ref b498), .val (.int (1 : Int32)), .unset, .unset]) rfl k_) ?_
          show own_Go p e below _ (T501.setTop (mkF m 94 #[.val (.int nb), .val (.int ca), .val (.int cb), .val (.int fl), .val (.int ((ca &&& (255 : Int32)).toUInt32.toUInt16.toUInt32.toInt32)), .val (.int ((cb &&& (255 : Int32)).toUInt32.toUInt16.toUInt32.toInt32)), .val .null, .val (.ref r_495), .val (.ref b498), .val (.int (1 : Int32)), .unset, .unset] []))
          refine own_st (fun u_ k_ => XS.iload X501.here hx rfl (hb hby at_94) rfl k_) ?_
          refine own_st (fun u_ k_ => XS.ifNo X501.here hx rfl (hb hby at_96) rfl (XT.i0_eq_f (by decide)) k_) ?_
          show own_Go p e below _ (T501.setTop (mkF m 99 #[.val (.int nb), .val (.int ca), .val (.int cb), .val (.int fl), .val (.int ((ca &&& (255 : Int32)).toUInt32.toUInt16.toUInt32.toInt32)), .val (.int ((cb &&& (255 : Int32)).toUInt32.toUInt16.toUInt32.toInt32)), .val .null, .val (.ref r_495), .val (.ref b498), .val (.int (1 : Int32)), .unset, .unset] []))
          refine own_st (fun u_ k_ => XS.iloadN X501.here hx rfl (hb hby at_99) rfl k_) ?_
          refine own_st (fun u_ k_ => XS.bipush X501.here hx rfl (hb hby at_100) k_) ?_
          show own_Go p e below _ (T501.setTop (mkF m 102 #[.val (.int nb), .val (.int ca), .val (.int cb), .val (.int fl), .val (.int ((ca &&& (255 : Int32)).toUInt32.toUInt16.toUInt32.toInt32)), .val (.int ((cb &&& (255 : Int32)).toUInt32.toUInt16.toUInt32.toInt32)), .val .null, .val (.ref r_495), .val (.ref b498), .val (.int (1 : Int32)), .unset, .unset] [(.int (8 : Int32)), (.int fl)]))
          refine own_st (fun u_ k_ => XS.iushr X501.here hx rfl (hb hby at_102) rfl k_) ?_
          refine own_st (fun u_ k_ => XS.iload X501.here hx rfl (hb hby at_103) rfl k_) ?_
          show own_Go p e below _ (T501.setTop (mkF m 105 #[.val (.int nb), .val (.int ca), .val (.int cb), .val (.int fl), .val (.int ((ca &&& (255 : Int32)).toUInt32.toUInt16.toUInt32.toInt32)), .val (.int ((cb &&& (255 : Int32)).toUInt32.toUInt16.toUInt32.toInt32)), .val .null, .val (.ref r_495), .val (.ref b498), .val (.int (1 : Int32)), .unset, .unset] [(.int ((ca &&& (255 : Int32)).toUInt32.toUInt16.toUInt32.toInt32)), (.int ((fl.toUInt32 >>> ((8 : Int32) &&& 31).toUInt32).toInt32))]))
          refine own_st (fun u_ k_ => XS.iload X501.here hx rfl (hb hby at_105) rfl k_) ?_
          have O529 : Old Z n0 T501.heap := O502.keep K501 (allS g499 all0)
          have R530 : CHr Z own_EL s.vm h0 T494.vm T494.heap := R0.trans hr494
          have R531 : CHr Z own_EL s.vm h0 T494.vm h498 := R530.trans (CHr.ext E498 R530.1)
          have sf_533 : Safe Z own_EL T494.vm h498 b498 := Safe.exa hZ494.alike A498 own_lm_282 own_lm_283
          have R532 : CHr Z own_EL s.vm h0 T494.vm T501.heap := R531.trans (CHr.keep K501 (sfS sf_533 sf0) R531.1)
          obtain ⟨T528, v528, L528, X528, Si528, hZ528, hown528, hQ528, hr528, st528⟩ := own_callSH X501 hx hZ494 Si494 (Nat.le_trans (Nat.le_refl _) (Nat.le_trans E498.1 K501.1)) (own_hEL hw) R532.1 own_sf0 (y := own_y_188) hown494 (own_w hw 0 rfl) (own_w hw 1 rfl) (own_w hw 2 rfl) (own_w hw 3 rfl) own_lm_276 (rmStr l Z a0 hw [] wcs wd hS ((fl.toUInt32 >>> ((8 : Int32) &&& 31).toUInt32).toInt32) ((ca &&& (255 : Int32)).toUInt32.toUInt16.toUInt32.toInt32) ((cb &&& (255 : Int32)).toUInt32.toUInt16.toUInt32.toInt32) T501.heap n0 O529 (own_c255 _) (own_c255n _) (own_c255n _)) rfl own_pd_277 (argsL := [(.int ((fl.toUInt32 >>> ((8 : Int32) &&& 31).toUInt32).toInt32)), (.int ((ca &&& (255 : Int32)).toUInt32.toUInt16.toUInt32.toInt32)), (.int ((cb &&& (255 : Int32)).toUInt32.toUInt16.toUInt32.toInt32))]) (rest := []) rfl rfl (g := (mkF m 107 #[.val (.int nb), .val (.int ca), .val (.int cb), .val (.int fl), .val (.int ((ca &&& (255 : Int32)).toUInt32.toUInt16.toUInt32.toInt32)), .val (.int ((cb &&& (255 : Int32)).toUInt32.toUInt16.toUInt32.toInt32)), .val .null, .val (.ref r_495), .val (.ref b498), .val (.int (1 : Int32)), .unset, .unset] [(.int ((cb &&& (255 : Int32)).toUInt32.toUInt16.toUInt32.toInt32)), (.int ((ca &&& (255 : Int32)).toUInt32.toUInt16.toUInt32.toInt32)), (.int ((fl.toUInt32 >>> ((8 : Int32) &&& 31).toUInt32).toInt32))])) rfl (by rw [hml]; rfl) rfl (hb hby at_107) (W := 0) rfl (by decide) (by decide) (by decide) (by decide)
          obtain ⟨r_534, rfl, M528, K528, F535⟩ := hQ528
          have N528 := Fr.app N501 M528
          refine own_st (fun u_ k_ => st528 u_ k_) ?_
          show own_Go p e below _ (T528.setTop (mkF m 110 #[.val (.int nb), .val (.int ca), .val (.int cb), .val (.int fl), .val (.int ((ca &&& (255 : Int32)).toUInt32.toUInt16.toUInt32.toInt32)), .val (.int ((cb &&& (255 : Int32)).toUInt32.toUInt16.toUInt32.toInt32)), .val .null, .val (.ref r_495), .val (.ref b498), .val (.int (1 : Int32)), .unset, .unset] [(.ref r_534)]))
          refine own_st (fun u_ k_ => XS.goto X528.here hx rfl (pc0 := 110) (pc' := 114) rfl (hb hby at_110) (by decide) (by decide) k_) ?_
          refine own_st (fun u_ k_ => XS.astore X528.here hx rfl (hb hby at_114) rfl rfl (l' := #[.val (.int nb), .val (.int ca), .val (.int cb), .val (.int fl), .val (.int ((ca &&& (255 : Int32)).toUInt32.toUInt16.toUInt32.toInt32)), .val (.int ((cb &&& (255 : Int32)).toUInt32.toUInt16.toUInt32.toInt32)), .val .null, .val (.ref r_495), .val (.ref b498), .val (.int (1 : Int32)), .val (.ref r_534), .unset]) rfl k_) ?_
          show own_Go p e below _ (T528.setTop (mkF m 116 #[.val (.int nb), .val (.int ca), .val (.int cb), .val (.int fl), .val (.int ((ca &&& (255 : Int32)).toUInt32.toUInt16.toUInt32.toInt32)), .val (.int ((cb &&& (255 : Int32)).toUInt32.toUInt16.toUInt32.toInt32)), .val .null, .val (.ref r_495), .val (.ref b498), .val (.int (1 : Int32)), .val (.ref r_534), .unset] []))
          obtain ⟨T536, h536, X536, e536, E536, A536, D536, U536, st536⟩ := newO X528 hx hZ528 hown528 (own_w hw 50 rfl) (own_w hw 51 rfl) (own_w hw 52 rfl) rfl (g := (mkF m 116 #[.val (.int nb), .val (.int ca), .val (.int cb), .val (.int fl), .val (.int ((ca &&& (255 : Int32)).toUInt32.toUInt16.toUInt32.toInt32)), .val (.int ((cb &&& (255 : Int32)).toUInt32.toUInt16.toUInt32.toInt32)), .val .null, .val (.ref r_495), .val (.ref b498), .val (.int (1 : Int32)), .val (.ref r_534), .unset] [])) rfl (hb hby at_116) (by decide) (by decide)
          obtain ⟨b536, g536⟩ : ∃ z, z = T528.heap.size := ⟨_, rfl⟩
          rw [← g536] at A536 D536 U536 st536
          have F536_number : Fld Z h536 b536 own_c_230 "number" "I" (.int (0 : Int32)) := D536 (Or.inr (own_w hw 63 rfl)) (ty := .int) own_lm_207
          have F536_id : Fld Z h536 b536 own_c_230 "id" "Ljava/lang/String;" .null := D536 (Or.inr (own_w hw 65 rfl)) (ty := (.object "java/lang/String")) own_lm_235
          have F536_data : Fld Z h536 b536 own_c_230 "data" "Ljava/lang/String;" .null := D536 (Or.inr (own_w hw 67 rfl)) (ty := (.object "java/lang/String")) own_lm_235
          have F536_manifestations : Fld Z h536 b536 own_c_230 "manifestations" "Ljava/util/List;" .null := D536 (Or.inr (own_w hw 69 rfl)) (ty := (.object "java/util/List")) own_lm_248
          have F536_refusal : Fld Z h536 b536 own_c_230 "refusal" "Ljava/lang/String;" .null := D536 (Or.inr (own_w hw 71 rfl)) (ty := (.object "java/lang/String")) own_lm_235
          refine own_st (fun u_ k_ => st536 u_ k_) ?_
          show own_Go p e below _ (T536.setTop (mkF m 119 #[.val (.int nb), .val (.int ca), .val (.int cb), .val (.int fl), .val (.int ((ca &&& (255 : Int32)).toUInt32.toUInt16.toUInt32.toInt32)), .val (.int ((cb &&& (255 : Int32)).toUInt32.toUInt16.toUInt32.toInt32)), .val .null, .val (.ref r_495), .val (.ref b498), .val (.int (1 : Int32)), .val (.ref r_534), .unset] [(.ref b536)]))
          refine own_st (fun u_ k_ => XS.dup X536.here hx rfl (hb hby at_119) rfl rfl k_) ?_
          refine own_st (fun u_ k_ => XS.iloadN X536.here hx rfl (hb hby at_120) rfl k_) ?_
          show own_Go p e below _ (T536.setTop (mkF m 121 #[.val (.int nb), .val (.int ca), .val (.int cb), .val (.int fl), .val (.int ((ca &&& (255 : Int32)).toUInt32.toUInt16.toUInt32.toInt32)), .val (.int ((cb &&& (255 : Int32)).toUInt32.toUInt16.toUInt32.toInt32)), .val .null, .val (.ref r_495), .val (.ref b498), .val (.int (1 : Int32)), .val (.ref r_534), .unset] [(.int nb), (.ref b536), (.ref b536)]))
          refine own_st (fun u_ k_ => XS.aload X536.here hx rfl (hb hby at_121) rfl rfl k_) ?_
          refine own_st (fun u_ k_ => XS.aload X536.here hx rfl (hb hby at_123) rfl rfl k_) ?_
          show own_Go p e below _ (T536.setTop (mkF m 125 #[.val (.int nb), .val (.int ca), .val (.int cb), .val (.int fl), .val (.int ((ca &&& (255 : Int32)).toUInt32.toUInt16.toUInt32.toInt32)), .val (.int ((cb &&& (255 : Int32)).toUInt32.toUInt16.toUInt32.toInt32)), .val .null, .val (.ref r_495), .val (.ref b498), .val (.int (1 : Int32)), .val (.ref r_534), .unset] [(.ref r_495), .null, (.int nb), (.ref b536), (.ref b536)]))
          refine own_st (fun u_ k_ => XS.aload X536.here hx rfl (hb hby at_125) rfl rfl k_) ?_
          refine own_st (fun u_ k_ => XS.aload X536.here hx rfl (hb hby at_127) rfl rfl k_) ?_
          show own_Go p e below _ (T536.setTop (mkF m 129 #[.val (.int nb), .val (.int ca), .val (.int cb), .val (.int fl), .val (.int ((ca &&& (255 : Int32)).toUInt32.toUInt16.toUInt32.toInt32)), .val (.int ((cb &&& (255 : Int32)).toUInt32.toUInt16.toUInt32.toInt32)), .val .null, .val (.ref r_495), .val (.ref b498), .val (.int (1 : Int32)), .val (.ref r_534), .unset] [(.ref r_534), (.ref b498), (.ref r_495), .null, (.int nb), (.ref b536), (.ref b536)]))
          have O538 : Old Z n0 T528.heap := O529.keep K528 all0
          have g537 : n0 ≤ b536 := Nat.le_trans (own_nl O538) (Nat.le_of_eq g536.symm)
          have O540 : Old Z n0 h536 := O538.ext E536
          obtain ⟨T539, v539, L539, X539, hQ539, st539⟩ := own_callN X536 hx hZ528 (y := own_y_266) rfl hown528 (own_w hw 53 rfl) (own_w hw 54 rfl) (own_w hw 52 rfl) (own_w hw 55 rfl) own_lm_279 (rmDL l Z a0 hw [] wcs wd hS b536 nb (.null : Value) ((.ref r_495) : Value) ((.ref b498) : Value) ((.ref r_534) : Value) h536 n0 O540 A536 g537 rfl rfl rfl rfl F536_number F536_id F536_data F536_manifestations F536_refusal) e536 own_pd_280 (a := b536) (argsL := [(.int nb), .null, (.ref r_495), (.ref b498), (.ref r_534)]) (rest := [(.ref b536)]) rfl rfl (g := (mkF m 129 #[.val (.int nb), .val (.int ca), .val (.int cb), .val (.int fl), .val (.int ((ca &&& (255 : Int32)).toUInt32.toUInt16.toUInt32.toInt32)), .val (.int ((cb &&& (255 : Int32)).toUInt32.toUInt16.toUInt32.toInt32)), .val .null, .val (.ref r_495), .val (.ref b498), .val (.int (1 : Int32)), .val (.ref r_534), .unset] [(.ref r_534), (.ref b498), (.ref r_495), .null, (.int nb), (.ref b536), (.ref b536)])) rfl (by rw [hml]; rfl) rfl (hb hby at_129) (W := 1) rfl (by decide) (by decide) (by decide) (by decide)
          obtain ⟨rfl, M539, K539, F541, F542⟩ := hQ539
          have N539 := Fr.app N528 M539
          refine own_st (fun u_ k_ => st539 u_ k_) ?_
          show own_Go p e below _ (T539.setTop (mkF m 132 #[.val (.int nb), .val (.int ca), .val (.int cb), .val (.int fl), .val (.int ((ca &&& (255 : Int32)).toUInt32.toUInt16.toUInt32.toInt32)), .val (.int ((cb &&& (255 : Int32)).toUInt32.toUInt16.toUInt32.toInt32)), .val .null, .val (.ref r_495), .val (.ref b498), .val (.int (1 : Int32)), .val (.ref r_534), .unset] [(.ref b536)]))
          refine own_st (fun u_ k_ => XS.astore X539.here hx rfl (hb hby at_132) rfl rfl (l' := #[.val (.int nb), .val (.int ca), .val (.int cb), .val (.int fl), .val (.int ((ca &&& (255 : Int32)).toUInt32.toUInt16.toUInt32.toInt32)), .val (.int ((cb &&& (255 : Int32)).toUInt32.toUInt16.toUInt32.toInt32)), .val .null, .val (.ref r_495), .val (.ref b498), .val (.int (1 : Int32)), .val (.ref r_534), .val (.ref b536)]) rfl k_) ?_
          refine own_st (fun u_ k_ => XS.aload X539.here hx rfl (hb hby at_134) rfl rfl k_) ?_
          show own_Go p e below _ (T539.setTop (mkF m 136 #[.val (.int nb), .val (.int ca), .val (.int cb), .val (.int fl), .val (.int ((ca &&& (255 : Int32)).toUInt32.toUInt16.toUInt32.toInt32)), .val (.int ((cb &&& (255 : Int32)).toUInt32.toUInt16.toUInt32.toInt32)), .val .null, .val (.ref r_495), .val (.ref b498), .val (.int (1 : Int32)), .val (.ref r_534), .val (.ref b536)] [(.ref b536)]))
          have O544 : Old Z n0 T539.heap := O540.keep K539 (allS g537 all0)
          obtain ⟨T543, v543, L543, X543, hQ543, st543⟩ := own_callV X539 hx hZ528 (y := own_y_273) (z := own_y_273) hown528 (own_w hw 72 rfl) (own_w hw 73 rfl) (notFace_of_selects (args := #[]) (mvT hZ528 (own_w hw 75 rfl))) (own_w hw 75 rfl) (own_w hw 74 rfl) (own_w hw 52 rfl) (own_w hw 76 rfl) own_lm_279 (rmIR l Z a0 hw [] wcs wd hS b536 r_534 T539.heap n0 O544 F542) rfl F541 own_pd_281 (argsL := []) (rest := []) rfl rfl (g := (mkF m 136 #[.val (.int nb), .val (.int ca), .val (.int cb), .val (.int fl), .val (.int ((ca &&& (255 : Int32)).toUInt32.toUInt16.toUInt32.toInt32)), .val (.int ((cb &&& (255 : Int32)).toUInt32.toUInt16.toUInt32.toInt32)), .val .null, .val (.ref r_495), .val (.ref b498), .val (.int (1 : Int32)), .val (.ref r_534), .val (.ref b536)] [(.ref b536)])) rfl (by rw [hml]; rfl) rfl (hb hby at_136) (W := 0) rfl (by decide) (by decide) (by decide) (by decide)
          obtain ⟨rfl, M543, e543⟩ := hQ543
          have N543 := Fr.app N539 M543
          refine own_st (fun u_ k_ => st543 u_ k_) ?_
          show own_Go p e below _ (T543.setTop (mkF m 139 #[.val (.int nb), .val (.int ca), .val (.int cb), .val (.int fl), .val (.int ((ca &&& (255 : Int32)).toUInt32.toUInt16.toUInt32.toInt32)), .val (.int ((cb &&& (255 : Int32)).toUInt32.toUInt16.toUInt32.toInt32)), .val .null, .val (.ref r_495), .val (.ref b498), .val (.int (1 : Int32)), .val (.ref r_534), .val (.ref b536)] [(.int (1 : Int32))]))
          refine own_st (fun u_ k_ => XS.iload X543.here hx rfl (hb hby at_139) rfl k_) ?_
          refine own_st (fun u_ k_ => XS.icmpNo X543.here hx rfl (hb hby at_141) rfl (XT.ii_ne_f (by decide)) k_) ?_
          show own_Go p e below _ (T543.setTop (mkF m 144 #[.val (.int nb), .val (.int ca), .val (.int cb), .val (.int fl), .val (.int ((ca &&& (255 : Int32)).toUInt32.toUInt16.toUInt32.toInt32)), .val (.int ((cb &&& (255 : Int32)).toUInt32.toUInt16.toUInt32.toInt32)), .val .null, .val (.ref r_495), .val (.ref b498), .val (.int (1 : Int32)), .val (.ref r_534), .val (.ref b536)] []))
          refine own_st (fun u_ k_ => XS.iconst X543.here hx rfl (hb hby at_144) k_) ?_
          refine own_st (fun u_ k_ => XS.goto X543.here hx rfl (pc0 := 145) (pc' := 149) rfl (hb hby at_145) (by decide) (by decide) k_) ?_
          show own_Go p e below _ (T543.setTop (mkF m 149 #[.val (.int nb), .val (.int ca), .val (.int cb), .val (.int fl), .val (.int ((ca &&& (255 : Int32)).toUInt32.toUInt16.toUInt32.toInt32)), .val (.int ((cb &&& (255 : Int32)).toUInt32.toUInt16.toUInt32.toInt32)), .val .null, .val (.ref r_495), .val (.ref b498), .val (.int (1 : Int32)), .val (.ref r_534), .val (.ref b536)] [(.int (1 : Int32))]))
          have K545 : Keep h0 T494.heap [] := (Keep.refl h0 []).trans K494 all0
          have K546 : Keep h0 h498 [] := K545.ext E498
          have z548 : h0.size ≤ b498 := Nat.le_trans K494.1 (Nat.le_of_eq g498.symm)
          have K547 : Keep h0 T501.heap [] := K546.trans K501 (allS (Or.inr z548) all0)
          have K549 : Keep h0 T528.heap [] := K547.trans K528 all0
          have K550 : Keep h0 h536 [] := K549.ext E536
          have z552 : h0.size ≤ b536 := Nat.le_trans (Nat.le_trans (Nat.le_trans (Nat.le_trans K494.1 E498.1) K501.1) K528.1) (Nat.le_of_eq g536.symm)
          have K551 : Keep h0 T539.heap [] := K550.trans K539 (allS (Or.inr z552) all0)
          have R553 : CHr Z own_EL s.vm h0 T528.vm T528.heap := R532.trans hr528
          have R554 : CHr Z own_EL s.vm h0 T528.vm h536 := R553.trans (CHr.ext E536 R553.1)
          have sf_556 : Safe Z own_EL T528.vm h536 b536 := Safe.exa hZ528.alike A536 own_lm_284 own_lm_285
          have R555 : CHr Z own_EL s.vm h0 T528.vm T539.heap := R554.trans (CHr.keep K539 (sfS sf_556 sf0) R554.1)
          exact own_retXH X543 Si528 (Nat.le_trans (Nat.le_refl _) (Nat.le_trans E536.1 K539.1)) e543 hZ528 (own_hEL hw) hs0 R555 hx hlk hret rfl (Or.inl ⟨rfl, by simp, _, rfl⟩) (hb hby at_149) (by decide) (by decide) (show Qrm0 Z wcs wd nb ca cb fl h0 n0 (some (.int (1 : Int32))) T543.heap _ from (by rw [e543]; exact ⟨rfl, N543, K551⟩))
      · refine own_st (fun u_ k_ => XS.ifNo X494.here hx rfl (hb hby at_64) rfl (XT.i0_eq_f hc497) k_) ?_
        refine own_st (fun u_ k_ => XS.aconstNull X494.here hx rfl (hb hby at_67) k_) ?_
        show own_Go p e below _ (T494.setTop (mkF m 68 #[.val (.int nb), .val (.int ca), .val (.int cb), .val (.int fl), .val (.int ((ca &&& (255 : Int32)).toUInt32.toUInt16.toUInt32.toInt32)), .val (.int ((cb &&& (255 : Int32)).toUInt32.toUInt16.toUInt32.toInt32)), .val .null, .val (.ref r_495), .unset, .unset, .unset, .unset] [.null]))
        refine own_st (fun u_ k_ => XS.goto X494.here hx rfl (pc0 := 68) (pc' := 78) rfl (hb hby at_68) (by decide) (by decide) k_) ?_
        refine own_st (fun u_ k_ => XS.astore X494.here hx rfl (hb hby at_78) rfl rfl (l' := #[.val (.int nb), .val (.int ca), .val (.int cb), .val (.int fl), .val (.int ((ca &&& (255 : Int32)).toUInt32.toUInt16.toUInt32.toInt32)), .val (.int ((cb &&& (255 : Int32)).toUInt32.toUInt16.toUInt32.toInt32)), .val .null, .val (.ref r_495), .val .null, .unset, .unset, .unset]) rfl k_) ?_
        show own_Go p e below _ (T494.setTop (mkF m 80 #[.val (.int nb), .val (.int ca), .val (.int cb), .val (.int fl), .val (.int ((ca &&& (255 : Int32)).toUInt32.toUInt16.toUInt32.toInt32)), .val (.int ((cb &&& (255 : Int32)).toUInt32.toUInt16.toUInt32.toInt32)), .val .null, .val (.ref r_495), .val .null, .unset, .unset, .unset] []))
        refine own_st (fun u_ k_ => XS.iloadN X494.here hx rfl (hb hby at_80) rfl k_) ?_
        refine own_st (fun u_ k_ => XS.bipush X494.here hx rfl (hb hby at_81) k_) ?_
        show own_Go p e below _ (T494.setTop (mkF m 83 #[.val (.int nb), .val (.int ca), .val (.int cb), .val (.int fl), .val (.int ((ca &&& (255 : Int32)).toUInt32.toUInt16.toUInt32.toInt32)), .val (.int ((cb &&& (255 : Int32)).toUInt32.toUInt16.toUInt32.toInt32)), .val .null, .val (.ref r_495), .val .null, .unset, .unset, .unset] [(.int (8 : Int32)), (.int fl)]))
        refine own_st (fun u_ k_ => XS.iand X494.here hx rfl (hb hby at_83) rfl k_) ?_
        by_cases hc557 : (fl &&& (8 : Int32)) = (0 : Int32)
        · refine own_st (fun u_ k_ => XS.ifYes X494.here hx rfl (pc0 := 84) (pc' := 91) rfl (hb hby at_84) rfl (XT.i0_eq_t hc557) (by decide) (by decide) k_) ?_
          show own_Go p e below _ (T494.setTop (mkF m 91 #[.val (.int nb), .val (.int ca), .val (.int cb), .val (.int fl), .val (.int ((ca &&& (255 : Int32)).toUInt32.toUInt16.toUInt32.toInt32)), .val (.int ((cb &&& (255 : Int32)).toUInt32.toUInt16.toUInt32.toInt32)), .val .null, .val (.ref r_495), .val .null, .unset, .unset, .unset] []))
          refine own_st (fun u_ k_ => XS.iconst X494.here hx rfl (hb hby at_91) k_) ?_
          refine own_st (fun u_ k_ => XS.istore X494.here hx rfl (hb hby at_92) rfl (l' := #[.val (.int nb), .val (.int ca), .val (.int cb), .val (.int fl), .val (.int ((ca &&& (255 : Int32)).toUInt32.toUInt16.toUInt32.toInt32)), .val (.int ((cb &&& (255 : Int32)).toUInt32.toUInt16.toUInt32.toInt32)), .val .null, .val (.ref r_495), .val .null, .val (.int (0 : Int32)), .unset, .unset]) rfl k_) ?_
          show own_Go p e below _ (T494.setTop (mkF m 94 #[.val (.int nb), .val (.int ca), .val (.int cb), .val (.int fl), .val (.int ((ca &&& (255 : Int32)).toUInt32.toUInt16.toUInt32.toInt32)), .val (.int ((cb &&& (255 : Int32)).toUInt32.toUInt16.toUInt32.toInt32)), .val .null, .val (.ref r_495), .val .null, .val (.int (0 : Int32)), .unset, .unset] []))
          refine own_st (fun u_ k_ => XS.iload X494.here hx rfl (hb hby at_94) rfl k_) ?_
          refine own_st (fun u_ k_ => XS.ifYes X494.here hx rfl (pc0 := 96) (pc' := 113) rfl (hb hby at_96) rfl (XT.i0_eq_t (by decide)) (by decide) (by decide) k_) ?_
          show own_Go p e below _ (T494.setTop (mkF m 113 #[.val (.int nb), .val (.int ca), .val (.int cb), .val (.int fl), .val (.int ((ca &&& (255 : Int32)).toUInt32.toUInt16.toUInt32.toInt32)), .val (.int ((cb &&& (255 : Int32)).toUInt32.toUInt16.toUInt32.toInt32)), .val .null, .val (.ref r_495), .val .null, .val (.int (0 : Int32)), .unset, .unset] []))
          refine own_st (fun u_ k_ => XS.aconstNull X494.here hx rfl (hb hby at_113) k_) ?_
          refine own_st (fun u_ k_ => XS.astore X494.here hx rfl (hb hby at_114) rfl rfl (l' := #[.val (.int nb), .val (.int ca), .val (.int cb), .val (.int fl), .val (.int ((ca &&& (255 : Int32)).toUInt32.toUInt16.toUInt32.toInt32)), .val (.int ((cb &&& (255 : Int32)).toUInt32.toUInt16.toUInt32.toInt32)), .val .null, .val (.ref r_495), .val .null, .val (.int (0 : Int32)), .val .null, .unset]) rfl k_) ?_
          show own_Go p e below _ (T494.setTop (mkF m 116 #[.val (.int nb), .val (.int ca), .val (.int cb), .val (.int fl), .val (.int ((ca &&& (255 : Int32)).toUInt32.toUInt16.toUInt32.toInt32)), .val (.int ((cb &&& (255 : Int32)).toUInt32.toUInt16.toUInt32.toInt32)), .val .null, .val (.ref r_495), .val .null, .val (.int (0 : Int32)), .val .null, .unset] []))
          obtain ⟨T558, h558, X558, e558, E558, A558, D558, U558, st558⟩ := newO X494 hx hZ494 hown494 (own_w hw 50 rfl) (own_w hw 51 rfl) (own_w hw 52 rfl) rfl (g := (mkF m 116 #[.val (.int nb), .val (.int ca), .val (.int cb), .val (.int fl), .val (.int ((ca &&& (255 : Int32)).toUInt32.toUInt16.toUInt32.toInt32)), .val (.int ((cb &&& (255 : Int32)).toUInt32.toUInt16.toUInt32.toInt32)), .val .null, .val (.ref r_495), .val .null, .val (.int (0 : Int32)), .val .null, .unset] [])) rfl (hb hby at_116) (by decide) (by decide)
          obtain ⟨b558, g558⟩ : ∃ z, z = T494.heap.size := ⟨_, rfl⟩
          rw [← g558] at A558 D558 U558 st558
          have F558_number : Fld Z h558 b558 own_c_230 "number" "I" (.int (0 : Int32)) := D558 (Or.inr (own_w hw 63 rfl)) (ty := .int) own_lm_207
          have F558_id : Fld Z h558 b558 own_c_230 "id" "Ljava/lang/String;" .null := D558 (Or.inr (own_w hw 65 rfl)) (ty := (.object "java/lang/String")) own_lm_235
          have F558_data : Fld Z h558 b558 own_c_230 "data" "Ljava/lang/String;" .null := D558 (Or.inr (own_w hw 67 rfl)) (ty := (.object "java/lang/String")) own_lm_235
          have F558_manifestations : Fld Z h558 b558 own_c_230 "manifestations" "Ljava/util/List;" .null := D558 (Or.inr (own_w hw 69 rfl)) (ty := (.object "java/util/List")) own_lm_248
          have F558_refusal : Fld Z h558 b558 own_c_230 "refusal" "Ljava/lang/String;" .null := D558 (Or.inr (own_w hw 71 rfl)) (ty := (.object "java/lang/String")) own_lm_235
          refine own_st (fun u_ k_ => st558 u_ k_) ?_
          show own_Go p e below _ (T558.setTop (mkF m 119 #[.val (.int nb), .val (.int ca), .val (.int cb), .val (.int fl), .val (.int ((ca &&& (255 : Int32)).toUInt32.toUInt16.toUInt32.toInt32)), .val (.int ((cb &&& (255 : Int32)).toUInt32.toUInt16.toUInt32.toInt32)), .val .null, .val (.ref r_495), .val .null, .val (.int (0 : Int32)), .val .null, .unset] [(.ref b558)]))
          refine own_st (fun u_ k_ => XS.dup X558.here hx rfl (hb hby at_119) rfl rfl k_) ?_
          refine own_st (fun u_ k_ => XS.iloadN X558.here hx rfl (hb hby at_120) rfl k_) ?_
          show own_Go p e below _ (T558.setTop (mkF m 121 #[.val (.int nb), .val (.int ca), .val (.int cb), .val (.int fl), .val (.int ((ca &&& (255 : Int32)).toUInt32.toUInt16.toUInt32.toInt32)), .val (.int ((cb &&& (255 : Int32)).toUInt32.toUInt16.toUInt32.toInt32)), .val .null, .val (.ref r_495), .val .null, .val (.int (0 : Int32)), .val .null, .unset] [(.int nb), (.ref b558), (.ref b558)]))
          refine own_st (fun u_ k_ => XS.aload X558.here hx rfl (hb hby at_121) rfl rfl k_) ?_
          refine own_st (fun u_ k_ => XS.aload X558.here hx rfl (hb hby at_123) rfl rfl k_) ?_
          show own_Go p e below _ (T558.setTop (mkF m 125 #[.val (.int nb), .val (.int ca), .val (.int cb), .val (.int fl), .val (.int ((ca &&& (255 : Int32)).toUInt32.toUInt16.toUInt32.toInt32)), .val (.int ((cb &&& (255 : Int32)).toUInt32.toUInt16.toUInt32.toInt32)), .val .null, .val (.ref r_495), .val .null, .val (.int (0 : Int32)), .val .null, .unset] [(.ref r_495), .null, (.int nb), (.ref b558), (.ref b558)]))
          refine own_st (fun u_ k_ => XS.aload X558.here hx rfl (hb hby at_125) rfl rfl k_) ?_
          refine own_st (fun u_ k_ => XS.aload X558.here hx rfl (hb hby at_127) rfl rfl k_) ?_
          show own_Go p e below _ (T558.setTop (mkF m 129 #[.val (.int nb), .val (.int ca), .val (.int cb), .val (.int fl), .val (.int ((ca &&& (255 : Int32)).toUInt32.toUInt16.toUInt32.toInt32)), .val (.int ((cb &&& (255 : Int32)).toUInt32.toUInt16.toUInt32.toInt32)), .val .null, .val (.ref r_495), .val .null, .val (.int (0 : Int32)), .val .null, .unset] [.null, .null, (.ref r_495), .null, (.int nb), (.ref b558), (.ref b558)]))
          have O560 : Old Z n0 T494.heap := O0.keep K494 all0
          have g559 : n0 ≤ b558 := Nat.le_trans (own_nl O560) (Nat.le_of_eq g558.symm)
          have O562 : Old Z n0 h558 := O560.ext E558
          obtain ⟨T561, v561, L561, X561, hQ561, st561⟩ := own_callN X558 hx hZ494 (y := own_y_266) rfl hown494 (own_w hw 53 rfl) (own_w hw 54 rfl) (own_w hw 52 rfl) (own_w hw 55 rfl) own_lm_279 (rmDL l Z a0 hw [] wcs wd hS b558 nb (.null : Value) ((.ref r_495) : Value) (.null : Value) (.null : Value) h558 n0 O562 A558 g559 rfl rfl rfl rfl F558_number F558_id F558_data F558_manifestations F558_refusal) e558 own_pd_280 (a := b558) (argsL := [(.int nb), .null, (.ref r_495), .null, .null]) (rest := [(.ref b558)]) rfl rfl (g := (mkF m 129 #[.val (.int nb), .val (.int ca), .val (.int cb), .val (.int fl), .val (.int ((ca &&& (255 : Int32)).toUInt32.toUInt16.toUInt32.toInt32)), .val (.int ((cb &&& (255 : Int32)).toUInt32.toUInt16.toUInt32.toInt32)), .val .null, .val (.ref r_495), .val .null, .val (.int (0 : Int32)), .val .null, .unset] [.null, .null, (.ref r_495), .null, (.int nb), (.ref b558), (.ref b558)])) rfl (by rw [hml]; rfl) rfl (hb hby at_129) (W := 1) rfl (by decide) (by decide) (by decide) (by decide)
          obtain ⟨rfl, M561, K561, F563, F564⟩ := hQ561
          have N561 := Fr.app N494 M561
          refine own_st (fun u_ k_ => st561 u_ k_) ?_
          show own_Go p e below _ (T561.setTop (mkF m 132 #[.val (.int nb), .val (.int ca), .val (.int cb), .val (.int fl), .val (.int ((ca &&& (255 : Int32)).toUInt32.toUInt16.toUInt32.toInt32)), .val (.int ((cb &&& (255 : Int32)).toUInt32.toUInt16.toUInt32.toInt32)), .val .null, .val (.ref r_495), .val .null, .val (.int (0 : Int32)), .val .null, .unset] [(.ref b558)]))
          refine own_st (fun u_ k_ => XS.astore X561.here hx rfl (hb hby at_132) rfl rfl (l' := #[.val (.int nb), .val (.int ca), .val (.int cb), .val (.int fl), .val (.int ((ca &&& (255 : Int32)).toUInt32.toUInt16.toUInt32.toInt32)), .val (.int ((cb &&& (255 : Int32)).toUInt32.toUInt16.toUInt32.toInt32)), .val .null, .val (.ref r_495), .val .null, .val (.int (0 : Int32)), .val .null, .val (.ref b558)]) rfl k_) ?_
          refine own_st (fun u_ k_ => XS.aload X561.here hx rfl (hb hby at_134) rfl rfl k_) ?_
          show own_Go p e below _ (T561.setTop (mkF m 136 #[.val (.int nb), .val (.int ca), .val (.int cb), .val (.int fl), .val (.int ((ca &&& (255 : Int32)).toUInt32.toUInt16.toUInt32.toInt32)), .val (.int ((cb &&& (255 : Int32)).toUInt32.toUInt16.toUInt32.toInt32)), .val .null, .val (.ref r_495), .val .null, .val (.int (0 : Int32)), .val .null, .val (.ref b558)] [(.ref b558)]))
          have O566 : Old Z n0 T561.heap := O562.keep K561 (allS g559 all0)
          obtain ⟨T565, v565, L565, X565, hQ565, st565⟩ := own_callV X561 hx hZ494 (y := own_y_273) (z := own_y_273) hown494 (own_w hw 72 rfl) (own_w hw 73 rfl) (notFace_of_selects (args := #[]) (mvT hZ494 (own_w hw 75 rfl))) (own_w hw 75 rfl) (own_w hw 74 rfl) (own_w hw 52 rfl) (own_w hw 76 rfl) own_lm_279 (rmIN l Z a0 hw [] wcs wd hS b558 T561.heap n0 O566 F564) rfl F563 own_pd_281 (argsL := []) (rest := []) rfl rfl (g := (mkF m 136 #[.val (.int nb), .val (.int ca), .val (.int cb), .val (.int fl), .val (.int ((ca &&& (255 : Int32)).toUInt32.toUInt16.toUInt32.toInt32)), .val (.int ((cb &&& (255 : Int32)).toUInt32.toUInt16.toUInt32.toInt32)), .val .null, .val (.ref r_495), .val .null, .val (.int (0 : Int32)), .val .null, .val (.ref b558)] [(.ref b558)])) rfl (by rw [hml]; rfl) rfl (hb hby at_136) (W := 0) rfl (by decide) (by decide) (by decide) (by decide)
          obtain ⟨rfl, M565, e565⟩ := hQ565
          have N565 := Fr.app N561 M565
          refine own_st (fun u_ k_ => st565 u_ k_) ?_
          show own_Go p e below _ (T565.setTop (mkF m 139 #[.val (.int nb), .val (.int ca), .val (.int cb), .val (.int fl), .val (.int ((ca &&& (255 : Int32)).toUInt32.toUInt16.toUInt32.toInt32)), .val (.int ((cb &&& (255 : Int32)).toUInt32.toUInt16.toUInt32.toInt32)), .val .null, .val (.ref r_495), .val .null, .val (.int (0 : Int32)), .val .null, .val (.ref b558)] [(.int (0 : Int32))]))
          refine own_st (fun u_ k_ => XS.iload X565.here hx rfl (hb hby at_139) rfl k_) ?_
          refine own_st (fun u_ k_ => XS.icmpNo X565.here hx rfl (hb hby at_141) rfl (XT.ii_ne_f (by decide)) k_) ?_
          show own_Go p e below _ (T565.setTop (mkF m 144 #[.val (.int nb), .val (.int ca), .val (.int cb), .val (.int fl), .val (.int ((ca &&& (255 : Int32)).toUInt32.toUInt16.toUInt32.toInt32)), .val (.int ((cb &&& (255 : Int32)).toUInt32.toUInt16.toUInt32.toInt32)), .val .null, .val (.ref r_495), .val .null, .val (.int (0 : Int32)), .val .null, .val (.ref b558)] []))
          refine own_st (fun u_ k_ => XS.iconst X565.here hx rfl (hb hby at_144) k_) ?_
          refine own_st (fun u_ k_ => XS.goto X565.here hx rfl (pc0 := 145) (pc' := 149) rfl (hb hby at_145) (by decide) (by decide) k_) ?_
          show own_Go p e below _ (T565.setTop (mkF m 149 #[.val (.int nb), .val (.int ca), .val (.int cb), .val (.int fl), .val (.int ((ca &&& (255 : Int32)).toUInt32.toUInt16.toUInt32.toInt32)), .val (.int ((cb &&& (255 : Int32)).toUInt32.toUInt16.toUInt32.toInt32)), .val .null, .val (.ref r_495), .val .null, .val (.int (0 : Int32)), .val .null, .val (.ref b558)] [(.int (1 : Int32))]))
          have K567 : Keep h0 T494.heap [] := (Keep.refl h0 []).trans K494 all0
          have K568 : Keep h0 h558 [] := K567.ext E558
          have z570 : h0.size ≤ b558 := Nat.le_trans K494.1 (Nat.le_of_eq g558.symm)
          have K569 : Keep h0 T561.heap [] := K568.trans K561 (allS (Or.inr z570) all0)
          have R571 : CHr Z own_EL s.vm h0 T494.vm T494.heap := R0.trans hr494
          have R572 : CHr Z own_EL s.vm h0 T494.vm h558 := R571.trans (CHr.ext E558 R571.1)
          have sf_574 : Safe Z own_EL T494.vm h558 b558 := Safe.exa hZ494.alike A558 own_lm_284 own_lm_285
          have R573 : CHr Z own_EL s.vm h0 T494.vm T561.heap := R572.trans (CHr.keep K561 (sfS sf_574 sf0) R572.1)
          exact own_retXH X565 Si494 (Nat.le_trans (Nat.le_refl _) (Nat.le_trans E558.1 K561.1)) e565 hZ494 (own_hEL hw) hs0 R573 hx hlk hret rfl (Or.inl ⟨rfl, by simp, _, rfl⟩) (hb hby at_149) (by decide) (by decide) (show Qrm0 Z wcs wd nb ca cb fl h0 n0 (some (.int (1 : Int32))) T565.heap _ from (by rw [e565]; exact ⟨rfl, N565, K569⟩))
        · refine own_st (fun u_ k_ => XS.ifNo X494.here hx rfl (hb hby at_84) rfl (XT.i0_eq_f hc557) k_) ?_
          show own_Go p e below _ (T494.setTop (mkF m 87 #[.val (.int nb), .val (.int ca), .val (.int cb), .val (.int fl), .val (.int ((ca &&& (255 : Int32)).toUInt32.toUInt16.toUInt32.toInt32)), .val (.int ((cb &&& (255 : Int32)).toUInt32.toUInt16.toUInt32.toInt32)), .val .null, .val (.ref r_495), .val .null, .unset, .unset, .unset] []))
          refine own_st (fun u_ k_ => XS.iconst X494.here hx rfl (hb hby at_87) k_) ?_
          refine own_st (fun u_ k_ => XS.goto X494.here hx rfl (pc0 := 88) (pc' := 92) rfl (hb hby at_88) (by decide) (by decide) k_) ?_
          show own_Go p e below _ (T494.setTop (mkF m 92 #[.val (.int nb), .val (.int ca), .val (.int cb), .val (.int fl), .val (.int ((ca &&& (255 : Int32)).toUInt32.toUInt16.toUInt32.toInt32)), .val (.int ((cb &&& (255 : Int32)).toUInt32.toUInt16.toUInt32.toInt32)), .val .null, .val (.ref r_495), .val .null, .unset, .unset, .unset] [(.int (1 : Int32))]))
          refine own_st (fun u_ k_ => XS.istore X494.here hx rfl (hb hby at_92) rfl (l' := #[.val (.int nb), .val (.int ca), .val (.int cb), .val (.int fl), .val (.int ((ca &&& (255 : Int32)).toUInt32.toUInt16.toUInt32.toInt32)), .val (.int ((cb &&& (255 : Int32)).toUInt32.toUInt16.toUInt32.toInt32)), .val .null, .val (.ref r_495), .val .null, .val (.int (1 : Int32)), .unset, .unset]) rfl k_) ?_
          refine own_st (fun u_ k_ => XS.iload X494.here hx rfl (hb hby at_94) rfl k_) ?_
          show own_Go p e below _ (T494.setTop (mkF m 96 #[.val (.int nb), .val (.int ca), .val (.int cb), .val (.int fl), .val (.int ((ca &&& (255 : Int32)).toUInt32.toUInt16.toUInt32.toInt32)), .val (.int ((cb &&& (255 : Int32)).toUInt32.toUInt16.toUInt32.toInt32)), .val .null, .val (.ref r_495), .val .null, .val (.int (1 : Int32)), .unset, .unset] [(.int (1 : Int32))]))
          refine own_st (fun u_ k_ => XS.ifNo X494.here hx rfl (hb hby at_96) rfl (XT.i0_eq_f (by decide)) k_) ?_
          refine own_st (fun u_ k_ => XS.iloadN X494.here hx rfl (hb hby at_99) rfl k_) ?_
          show own_Go p e below _ (T494.setTop (mkF m 100 #[.val (.int nb), .val (.int ca), .val (.int cb), .val (.int fl), .val (.int ((ca &&& (255 : Int32)).toUInt32.toUInt16.toUInt32.toInt32)), .val (.int ((cb &&& (255 : Int32)).toUInt32.toUInt16.toUInt32.toInt32)), .val .null, .val (.ref r_495), .val .null, .val (.int (1 : Int32)), .unset, .unset] [(.int fl)]))
          refine own_st (fun u_ k_ => XS.bipush X494.here hx rfl (hb hby at_100) k_) ?_
          refine own_st (fun u_ k_ => XS.iushr X494.here hx rfl (hb hby at_102) rfl k_) ?_
          show own_Go p e below _ (T494.setTop (mkF m 103 #[.val (.int nb), .val (.int ca), .val (.int cb), .val (.int fl), .val (.int ((ca &&& (255 : Int32)).toUInt32.toUInt16.toUInt32.toInt32)), .val (.int ((cb &&& (255 : Int32)).toUInt32.toUInt16.toUInt32.toInt32)), .val .null, .val (.ref r_495), .val .null, .val (.int (1 : Int32)), .unset, .unset] [(.int ((fl.toUInt32 >>> ((8 : Int32) &&& 31).toUInt32).toInt32))]))
          refine own_st (fun u_ k_ => XS.iload X494.here hx rfl (hb hby at_103) rfl k_) ?_
          refine own_st (fun u_ k_ => XS.iload X494.here hx rfl (hb hby at_105) rfl k_) ?_
          show own_Go p e below _ (T494.setTop (mkF m 107 #[.val (.int nb), .val (.int ca), .val (.int cb), .val (.int fl), .val (.int ((ca &&& (255 : Int32)).toUInt32.toUInt16.toUInt32.toInt32)), .val (.int ((cb &&& (255 : Int32)).toUInt32.toUInt16.toUInt32.toInt32)), .val .null, .val (.ref r_495), .val .null, .val (.int (1 : Int32)), .unset, .unset] [(.int ((cb &&& (255 : Int32)).toUInt32.toUInt16.toUInt32.toInt32)), (.int ((ca &&& (255 : Int32)).toUInt32.toUInt16.toUInt32.toInt32)), (.int ((fl.toUInt32 >>> ((8 : Int32) &&& 31).toUInt32).toInt32))]))
          have O576 : Old Z n0 T494.heap := O0.keep K494 all0
          have R577 : CHr Z own_EL s.vm h0 T494.vm T494.heap := R0.trans hr494
          obtain ⟨T575, v575, L575, X575, Si575, hZ575, hown575, hQ575, hr575, st575⟩ := own_callSH X494 hx hZ494 Si494 (Nat.le_refl _) (own_hEL hw) R577.1 own_sf0 (y := own_y_188) hown494 (own_w hw 0 rfl) (own_w hw 1 rfl) (own_w hw 2 rfl) (own_w hw 3 rfl) own_lm_276 (rmStr l Z a0 hw [] wcs wd hS ((fl.toUInt32 >>> ((8 : Int32) &&& 31).toUInt32).toInt32) ((ca &&& (255 : Int32)).toUInt32.toUInt16.toUInt32.toInt32) ((cb &&& (255 : Int32)).toUInt32.toUInt16.toUInt32.toInt32) T494.heap n0 O576 (own_c255 _) (own_c255n _) (own_c255n _)) rfl own_pd_277 (argsL := [(.int ((fl.toUInt32 >>> ((8 : Int32) &&& 31).toUInt32).toInt32)), (.int ((ca &&& (255 : Int32)).toUInt32.toUInt16.toUInt32.toInt32)), (.int ((cb &&& (255 : Int32)).toUInt32.toUInt16.toUInt32.toInt32))]) (rest := []) rfl rfl (g := (mkF m 107 #[.val (.int nb), .val (.int ca), .val (.int cb), .val (.int fl), .val (.int ((ca &&& (255 : Int32)).toUInt32.toUInt16.toUInt32.toInt32)), .val (.int ((cb &&& (255 : Int32)).toUInt32.toUInt16.toUInt32.toInt32)), .val .null, .val (.ref r_495), .val .null, .val (.int (1 : Int32)), .unset, .unset] [(.int ((cb &&& (255 : Int32)).toUInt32.toUInt16.toUInt32.toInt32)), (.int ((ca &&& (255 : Int32)).toUInt32.toUInt16.toUInt32.toInt32)), (.int ((fl.toUInt32 >>> ((8 : Int32) &&& 31).toUInt32).toInt32))])) rfl (by rw [hml]; rfl) rfl (hb hby at_107) (W := 0) rfl (by decide) (by decide) (by decide) (by decide)
          obtain ⟨r_578, rfl, M575, K575, F579⟩ := hQ575
          have N575 := Fr.app N494 M575
          refine own_st (fun u_ k_ => st575 u_ k_) ?_
          show own_Go p e below _ (T575.setTop (mkF m 110 #[.val (.int nb), .val (.int ca), .val (.int cb), .val (.int fl), .val (.int ((ca &&& (255 : Int32)).toUInt32.toUInt16.toUInt32.toInt32)), .val (.int ((cb &&& (255 : Int32)).toUInt32.toUInt16.toUInt32.toInt32)), .val .null, .val (.ref r_495), .val .null, .val (.int (1 : Int32)), .unset, .unset] [(.ref r_578)]))
          refine own_st (fun u_ k_ => XS.goto X575.here hx rfl (pc0 := 110) (pc' := 114) rfl (hb hby at_110) (by decide) (by decide) k_) ?_
          refine own_st (fun u_ k_ => XS.astore X575.here hx rfl (hb hby at_114) rfl rfl (l' := #[.val (.int nb), .val (.int ca), .val (.int cb), .val (.int fl), .val (.int ((ca &&& (255 : Int32)).toUInt32.toUInt16.toUInt32.toInt32)), .val (.int ((cb &&& (255 : Int32)).toUInt32.toUInt16.toUInt32.toInt32)), .val .null, .val (.ref r_495), .val .null, .val (.int (1 : Int32)), .val (.ref r_578), .unset]) rfl k_) ?_
          show own_Go p e below _ (T575.setTop (mkF m 116 #[.val (.int nb), .val (.int ca), .val (.int cb), .val (.int fl), .val (.int ((ca &&& (255 : Int32)).toUInt32.toUInt16.toUInt32.toInt32)), .val (.int ((cb &&& (255 : Int32)).toUInt32.toUInt16.toUInt32.toInt32)), .val .null, .val (.ref r_495), .val .null, .val (.int (1 : Int32)), .val (.ref r_578), .unset] []))
          obtain ⟨T580, h580, X580, e580, E580, A580, D580, U580, st580⟩ := newO X575 hx hZ575 hown575 (own_w hw 50 rfl) (own_w hw 51 rfl) (own_w hw 52 rfl) rfl (g := (mkF m 116 #[.val (.int nb), .val (.int ca), .val (.int cb), .val (.int fl), .val (.int ((ca &&& (255 : Int32)).toUInt32.toUInt16.toUInt32.toInt32)), .val (.int ((cb &&& (255 : Int32)).toUInt32.toUInt16.toUInt32.toInt32)), .val .null, .val (.ref r_495), .val .null, .val (.int (1 : Int32)), .val (.ref r_578), .unset] [])) rfl (hb hby at_116) (by decide) (by decide)
          obtain ⟨b580, g580⟩ : ∃ z, z = T575.heap.size := ⟨_, rfl⟩
          rw [← g580] at A580 D580 U580 st580
          have F580_number : Fld Z h580 b580 own_c_230 "number" "I" (.int (0 : Int32)) := D580 (Or.inr (own_w hw 63 rfl)) (ty := .int) own_lm_207
          have F580_id : Fld Z h580 b580 own_c_230 "id" "Ljava/lang/String;" .null := D580 (Or.inr (own_w hw 65 rfl)) (ty := (.object "java/lang/String")) own_lm_235
          have F580_data : Fld Z h580 b580 own_c_230 "data" "Ljava/lang/String;" .null := D580 (Or.inr (own_w hw 67 rfl)) (ty := (.object "java/lang/String")) own_lm_235
          have F580_manifestations : Fld Z h580 b580 own_c_230 "manifestations" "Ljava/util/List;" .null := D580 (Or.inr (own_w hw 69 rfl)) (ty := (.object "java/util/List")) own_lm_248
          have F580_refusal : Fld Z h580 b580 own_c_230 "refusal" "Ljava/lang/String;" .null := D580 (Or.inr (own_w hw 71 rfl)) (ty := (.object "java/lang/String")) own_lm_235
          refine own_st (fun u_ k_ => st580 u_ k_) ?_
          show own_Go p e below _ (T580.setTop (mkF m 119 #[.val (.int nb), .val (.int ca), .val (.int cb), .val (.int fl), .val (.int ((ca &&& (255 : Int32)).toUInt32.toUInt16.toUInt32.toInt32)), .val (.int ((cb &&& (255 : Int32)).toUInt32.toUInt16.toUInt32.toInt32)), .val .null, .val (.ref r_495), .val .null, .val (.int (1 : Int32)), .val (.ref r_578), .unset] [(.ref b580)]))
          refine own_st (fun u_ k_ => XS.dup X580.here hx rfl (hb hby at_119) rfl rfl k_) ?_
          refine own_st (fun u_ k_ => XS.iloadN X580.here hx rfl (hb hby at_120) rfl k_) ?_
          show own_Go p e below _ (T580.setTop (mkF m 121 #[.val (.int nb), .val (.int ca), .val (.int cb), .val (.int fl), .val (.int ((ca &&& (255 : Int32)).toUInt32.toUInt16.toUInt32.toInt32)), .val (.int ((cb &&& (255 : Int32)).toUInt32.toUInt16.toUInt32.toInt32)), .val .null, .val (.ref r_495), .val .null, .val (.int (1 : Int32)), .val (.ref r_578), .unset] [(.int nb), (.ref b580), (.ref b580)]))
          refine own_st (fun u_ k_ => XS.aload X580.here hx rfl (hb hby at_121) rfl rfl k_) ?_
          refine own_st (fun u_ k_ => XS.aload X580.here hx rfl (hb hby at_123) rfl rfl k_) ?_
          show own_Go p e below _ (T580.setTop (mkF m 125 #[.val (.int nb), .val (.int ca), .val (.int cb), .val (.int fl), .val (.int ((ca &&& (255 : Int32)).toUInt32.toUInt16.toUInt32.toInt32)), .val (.int ((cb &&& (255 : Int32)).toUInt32.toUInt16.toUInt32.toInt32)), .val .null, .val (.ref r_495), .val .null, .val (.int (1 : Int32)), .val (.ref r_578), .unset] [(.ref r_495), .null, (.int nb), (.ref b580), (.ref b580)]))
          refine own_st (fun u_ k_ => XS.aload X580.here hx rfl (hb hby at_125) rfl rfl k_) ?_
          refine own_st (fun u_ k_ => XS.aload X580.here hx rfl (hb hby at_127) rfl rfl k_) ?_
          show own_Go p e below _ (T580.setTop (mkF m 129 #[.val (.int nb), .val (.int ca), .val (.int cb), .val (.int fl), .val (.int ((ca &&& (255 : Int32)).toUInt32.toUInt16.toUInt32.toInt32)), .val (.int ((cb &&& (255 : Int32)).toUInt32.toUInt16.toUInt32.toInt32)), .val .null, .val (.ref r_495), .val .null, .val (.int (1 : Int32)), .val (.ref r_578), .unset] [(.ref r_578), .null, (.ref r_495), .null, (.int nb), (.ref b580), (.ref b580)]))
          have O582 : Old Z n0 T575.heap := O576.keep K575 all0
          have g581 : n0 ≤ b580 := Nat.le_trans (own_nl O582) (Nat.le_of_eq g580.symm)
          have O584 : Old Z n0 h580 := O582.ext E580
          obtain ⟨T583, v583, L583, X583, hQ583, st583⟩ := own_callN X580 hx hZ575 (y := own_y_266) rfl hown575 (own_w hw 53 rfl) (own_w hw 54 rfl) (own_w hw 52 rfl) (own_w hw 55 rfl) own_lm_279 (rmDL l Z a0 hw [] wcs wd hS b580 nb (.null : Value) ((.ref r_495) : Value) (.null : Value) ((.ref r_578) : Value) h580 n0 O584 A580 g581 rfl rfl rfl rfl F580_number F580_id F580_data F580_manifestations F580_refusal) e580 own_pd_280 (a := b580) (argsL := [(.int nb), .null, (.ref r_495), .null, (.ref r_578)]) (rest := [(.ref b580)]) rfl rfl (g := (mkF m 129 #[.val (.int nb), .val (.int ca), .val (.int cb), .val (.int fl), .val (.int ((ca &&& (255 : Int32)).toUInt32.toUInt16.toUInt32.toInt32)), .val (.int ((cb &&& (255 : Int32)).toUInt32.toUInt16.toUInt32.toInt32)), .val .null, .val (.ref r_495), .val .null, .val (.int (1 : Int32)), .val (.ref r_578), .unset] [(.ref r_578), .null, (.ref r_495), .null, (.int nb), (.ref b580), (.ref b580)])) rfl (by rw [hml]; rfl) rfl (hb hby at_129) (W := 1) rfl (by decide) (by decide) (by decide) (by decide)
          obtain ⟨rfl, M583, K583, F585, F586⟩ := hQ583
          have N583 := Fr.app N575 M583
          refine own_st (fun u_ k_ => st583 u_ k_) ?_
          show own_Go p e below _ (T583.setTop (mkF m 132 #[.val (.int nb), .val (.int ca), .val (.int cb), .val (.int fl), .val (.int ((ca &&& (255 : Int32)).toUInt32.toUInt16.toUInt32.toInt32)), .val (.int ((cb &&& (255 : Int32)).toUInt32.toUInt16.toUInt32.toInt32)), .val .null, .val (.ref r_495), .val .null, .val (.int (1 : Int32)), .val (.ref r_578), .unset] [(.ref b580)]))
          refine own_st (fun u_ k_ => XS.astore X583.here hx rfl (hb hby at_132) rfl rfl (l' := #[.val (.int nb), .val (.int ca), .val (.int cb), .val (.int fl), .val (.int ((ca &&& (255 : Int32)).toUInt32.toUInt16.toUInt32.toInt32)), .val (.int ((cb &&& (255 : Int32)).toUInt32.toUInt16.toUInt32.toInt32)), .val .null, .val (.ref r_495), .val .null, .val (.int (1 : Int32)), .val (.ref r_578), .val (.ref b580)]) rfl k_) ?_
          refine own_st (fun u_ k_ => XS.aload X583.here hx rfl (hb hby at_134) rfl rfl k_) ?_
          show own_Go p e below _ (T583.setTop (mkF m 136 #[.val (.int nb), .val (.int ca), .val (.int cb), .val (.int fl), .val (.int ((ca &&& (255 : Int32)).toUInt32.toUInt16.toUInt32.toInt32)), .val (.int ((cb &&& (255 : Int32)).toUInt32.toUInt16.toUInt32.toInt32)), .val .null, .val (.ref r_495), .val .null, .val (.int (1 : Int32)), .val (.ref r_578), .val (.ref b580)] [(.ref b580)]))
          have O588 : Old Z n0 T583.heap := O584.keep K583 (allS g581 all0)
          obtain ⟨T587, v587, L587, X587, hQ587, st587⟩ := own_callV X583 hx hZ575 (y := own_y_273) (z := own_y_273) hown575 (own_w hw 72 rfl) (own_w hw 73 rfl) (notFace_of_selects (args := #[]) (mvT hZ575 (own_w hw 75 rfl))) (own_w hw 75 rfl) (own_w hw 74 rfl) (own_w hw 52 rfl) (own_w hw 76 rfl) own_lm_279 (rmIR l Z a0 hw [] wcs wd hS b580 r_578 T583.heap n0 O588 F586) rfl F585 own_pd_281 (argsL := []) (rest := []) rfl rfl (g := (mkF m 136 #[.val (.int nb), .val (.int ca), .val (.int cb), .val (.int fl), .val (.int ((ca &&& (255 : Int32)).toUInt32.toUInt16.toUInt32.toInt32)), .val (.int ((cb &&& (255 : Int32)).toUInt32.toUInt16.toUInt32.toInt32)), .val .null, .val (.ref r_495), .val .null, .val (.int (1 : Int32)), .val (.ref r_578), .val (.ref b580)] [(.ref b580)])) rfl (by rw [hml]; rfl) rfl (hb hby at_136) (W := 0) rfl (by decide) (by decide) (by decide) (by decide)
          obtain ⟨rfl, M587, e587⟩ := hQ587
          have N587 := Fr.app N583 M587
          refine own_st (fun u_ k_ => st587 u_ k_) ?_
          show own_Go p e below _ (T587.setTop (mkF m 139 #[.val (.int nb), .val (.int ca), .val (.int cb), .val (.int fl), .val (.int ((ca &&& (255 : Int32)).toUInt32.toUInt16.toUInt32.toInt32)), .val (.int ((cb &&& (255 : Int32)).toUInt32.toUInt16.toUInt32.toInt32)), .val .null, .val (.ref r_495), .val .null, .val (.int (1 : Int32)), .val (.ref r_578), .val (.ref b580)] [(.int (1 : Int32))]))
          refine own_st (fun u_ k_ => XS.iload X587.here hx rfl (hb hby at_139) rfl k_) ?_
          refine own_st (fun u_ k_ => XS.icmpNo X587.here hx rfl (hb hby at_141) rfl (XT.ii_ne_f (by decide)) k_) ?_
          show own_Go p e below _ (T587.setTop (mkF m 144 #[.val (.int nb), .val (.int ca), .val (.int cb), .val (.int fl), .val (.int ((ca &&& (255 : Int32)).toUInt32.toUInt16.toUInt32.toInt32)), .val (.int ((cb &&& (255 : Int32)).toUInt32.toUInt16.toUInt32.toInt32)), .val .null, .val (.ref r_495), .val .null, .val (.int (1 : Int32)), .val (.ref r_578), .val (.ref b580)] []))
          refine own_st (fun u_ k_ => XS.iconst X587.here hx rfl (hb hby at_144) k_) ?_
          refine own_st (fun u_ k_ => XS.goto X587.here hx rfl (pc0 := 145) (pc' := 149) rfl (hb hby at_145) (by decide) (by decide) k_) ?_
          show own_Go p e below _ (T587.setTop (mkF m 149 #[.val (.int nb), .val (.int ca), .val (.int cb), .val (.int fl), .val (.int ((ca &&& (255 : Int32)).toUInt32.toUInt16.toUInt32.toInt32)), .val (.int ((cb &&& (255 : Int32)).toUInt32.toUInt16.toUInt32.toInt32)), .val .null, .val (.ref r_495), .val .null, .val (.int (1 : Int32)), .val (.ref r_578), .val (.ref b580)] [(.int (1 : Int32))]))
          have K589 : Keep h0 T494.heap [] := (Keep.refl h0 []).trans K494 all0
          have K590 : Keep h0 T575.heap [] := K589.trans K575 all0
          have K591 : Keep h0 h580 [] := K590.ext E580
          have z593 : h0.size ≤ b580 := Nat.le_trans (Nat.le_trans K494.1 K575.1) (Nat.le_of_eq g580.symm)
          have K592 : Keep h0 T583.heap [] := K591.trans K583 (allS (Or.inr z593) all0)
          have R594 : CHr Z own_EL s.vm h0 T575.vm T575.heap := R577.trans hr575
          have R595 : CHr Z own_EL s.vm h0 T575.vm h580 := R594.trans (CHr.ext E580 R594.1)
          have sf_597 : Safe Z own_EL T575.vm h580 b580 := Safe.exa hZ575.alike A580 own_lm_284 own_lm_285
          have R596 : CHr Z own_EL s.vm h0 T575.vm T583.heap := R595.trans (CHr.keep K583 (sfS sf_597 sf0) R595.1)
          exact own_retXH X587 Si575 (Nat.le_trans (Nat.le_refl _) (Nat.le_trans E580.1 K583.1)) e587 hZ575 (own_hEL hw) hs0 R596 hx hlk hret rfl (Or.inl ⟨rfl, by simp, _, rfl⟩) (hb hby at_149) (by decide) (by decide) (show Qrm0 Z wcs wd nb ca cb fl h0 n0 (some (.int (1 : Int32))) T587.heap _ from (by rw [e587]; exact ⟨rfl, N587, K592⟩))
    · refine own_st (fun u_ k_ => XS.ifNo X0.here hx rfl (hb hby at_41) rfl (XT.i0_eq_f hc493) k_) ?_
      refine own_st (fun u_ k_ => XS.aconstNull X0.here hx rfl (hb hby at_44) k_) ?_
      show own_Go p e below _ (s₁.setTop (mkF m 45 #[.val (.int nb), .val (.int ca), .val (.int cb), .val (.int fl), .val (.int ((ca &&& (255 : Int32)).toUInt32.toUInt16.toUInt32.toInt32)), .val (.int ((cb &&& (255 : Int32)).toUInt32.toUInt16.toUInt32.toInt32)), .val .null, .unset, .unset, .unset, .unset, .unset] [.null]))
      refine own_st (fun u_ k_ => XS.goto X0.here hx rfl (pc0 := 45) (pc' := 59) rfl (hb hby at_45) (by decide) (by decide) k_) ?_
      refine own_st (fun u_ k_ => XS.astore X0.here hx rfl (hb hby at_59) rfl rfl (l' := #[.val (.int nb), .val (.int ca), .val (.int cb), .val (.int fl), .val (.int ((ca &&& (255 : Int32)).toUInt32.toUInt16.toUInt32.toInt32)), .val (.int ((cb &&& (255 : Int32)).toUInt32.toUInt16.toUInt32.toInt32)), .val .null, .val .null, .unset, .unset, .unset, .unset]) rfl k_) ?_
      show own_Go p e below _ (s₁.setTop (mkF m 61 #[.val (.int nb), .val (.int ca), .val (.int cb), .val (.int fl), .val (.int ((ca &&& (255 : Int32)).toUInt32.toUInt16.toUInt32.toInt32)), .val (.int ((cb &&& (255 : Int32)).toUInt32.toUInt16.toUInt32.toInt32)), .val .null, .val .null, .unset, .unset, .unset, .unset] []))
      refine own_st (fun u_ k_ => XS.iloadN X0.here hx rfl (hb hby at_61) rfl k_) ?_
      refine own_st (fun u_ k_ => XS.iconst X0.here hx rfl (hb hby at_62) k_) ?_
      show own_Go p e below _ (s₁.setTop (mkF m 63 #[.val (.int nb), .val (.int ca), .val (.int cb), .val (.int fl), .val (.int ((ca &&& (255 : Int32)).toUInt32.toUInt16.toUInt32.toInt32)), .val (.int ((cb &&& (255 : Int32)).toUInt32.toUInt16.toUInt32.toInt32)), .val .null, .val .null, .unset, .unset, .unset, .unset] [(.int (4 : Int32)), (.int fl)]))
      refine own_st (fun u_ k_ => XS.iand X0.here hx rfl (hb hby at_63) rfl k_) ?_
      by_cases hc598 : (fl &&& (4 : Int32)) = (0 : Int32)
      · refine own_st (fun u_ k_ => XS.ifYes X0.here hx rfl (pc0 := 64) (pc' := 71) rfl (hb hby at_64) rfl (XT.i0_eq_t hc598) (by decide) (by decide) k_) ?_
        show own_Go p e below _ (s₁.setTop (mkF m 71 #[.val (.int nb), .val (.int ca), .val (.int cb), .val (.int fl), .val (.int ((ca &&& (255 : Int32)).toUInt32.toUInt16.toUInt32.toInt32)), .val (.int ((cb &&& (255 : Int32)).toUInt32.toUInt16.toUInt32.toInt32)), .val .null, .val .null, .unset, .unset, .unset, .unset] []))
        obtain ⟨T599, h599, X599, e599, E599, A599, D599, U599, st599⟩ := newO X0 hx hZ hown (own_w hw 26 rfl) (own_w hw 27 rfl) (own_w hw 28 rfl) e0 (g := (mkF m 71 #[.val (.int nb), .val (.int ca), .val (.int cb), .val (.int fl), .val (.int ((ca &&& (255 : Int32)).toUInt32.toUInt16.toUInt32.toInt32)), .val (.int ((cb &&& (255 : Int32)).toUInt32.toUInt16.toUInt32.toInt32)), .val .null, .val .null, .unset, .unset, .unset, .unset] [])) rfl (hb hby at_71) (by decide) (by decide)
        obtain ⟨b599, g599⟩ : ∃ z, z = h0.size := ⟨_, rfl⟩
        rw [← g599] at A599 D599 U599 st599
        have F599_modCount : Fld Z h599 b599 own_c_208 "modCount" "I" (.int (0 : Int32)) := D599 (Or.inl (own_w hw 46 rfl)) (ty := .int) own_lm_207
        have F599_elementData : Fld Z h599 b599 "java/util/ArrayList" "elementData" "[Ljava/lang/Object;" .null := D599 (Or.inl (own_w hw 49 rfl)) (ty := (.array (.object "java/lang/Object"))) own_lm_211
        refine own_st (fun u_ k_ => st599 u_ k_) ?_
        show own_Go p e below _ (T599.setTop (mkF m 74 #[.val (.int nb), .val (.int ca), .val (.int cb), .val (.int fl), .val (.int ((ca &&& (255 : Int32)).toUInt32.toUInt16.toUInt32.toInt32)), .val (.int ((cb &&& (255 : Int32)).toUInt32.toUInt16.toUInt32.toInt32)), .val .null, .val .null, .unset, .unset, .unset, .unset] [(.ref b599)]))
        refine own_st (fun u_ k_ => XS.dup X599.here hx rfl (hb hby at_74) rfl rfl k_) ?_
        have g600 : n0 ≤ b599 := Nat.le_trans (own_nl O0) (Nat.le_of_eq g599.symm)
        have O602 : Old Z n0 h599 := O0.ext E599
        obtain ⟨T601, v601, L601, X601, hQ601, st601⟩ := own_callN X599 hx hZ (y := own_y_222) rfl hown (own_w hw 29 rfl) (own_w hw 30 rfl) (own_w hw 28 rfl) (own_w hw 31 rfl) own_lm_278 (rmAL l Z a0 hw [] wcs wd hS b599 h599 n0 O602 A599 g600 F599_modCount F599_elementData) e599 own_pd_203 (a := b599) (argsL := []) (rest := [(.ref b599)]) rfl rfl (g := (mkF m 75 #[.val (.int nb), .val (.int ca), .val (.int cb), .val (.int fl), .val (.int ((ca &&& (255 : Int32)).toUInt32.toUInt16.toUInt32.toInt32)), .val (.int ((cb &&& (255 : Int32)).toUInt32.toUInt16.toUInt32.toInt32)), .val .null, .val .null, .unset, .unset, .unset, .unset] [(.ref b599), (.ref b599)])) rfl (by rw [hml]; rfl) rfl (hb hby at_75) (W := 1) rfl (by decide) (by decide) (by decide) (by decide)
        obtain ⟨rfl, M601, K601, F603⟩ := hQ601
        have N601 := Fr.app N0 M601
        refine own_st (fun u_ k_ => st601 u_ k_) ?_
        show own_Go p e below _ (T601.setTop (mkF m 78 #[.val (.int nb), .val (.int ca), .val (.int cb), .val (.int fl), .val (.int ((ca &&& (255 : Int32)).toUInt32.toUInt16.toUInt32.toInt32)), .val (.int ((cb &&& (255 : Int32)).toUInt32.toUInt16.toUInt32.toInt32)), .val .null, .val .null, .unset, .unset, .unset, .unset] [(.ref b599)]))
        refine own_st (fun u_ k_ => XS.astore X601.here hx rfl (hb hby at_78) rfl rfl (l' := #[.val (.int nb), .val (.int ca), .val (.int cb), .val (.int fl), .val (.int ((ca &&& (255 : Int32)).toUInt32.toUInt16.toUInt32.toInt32)), .val (.int ((cb &&& (255 : Int32)).toUInt32.toUInt16.toUInt32.toInt32)), .val .null, .val .null, .val (.ref b599), .unset, .unset, .unset]) rfl k_) ?_
        refine own_st (fun u_ k_ => XS.iloadN X601.here hx rfl (hb hby at_80) rfl k_) ?_
        show own_Go p e below _ (T601.setTop (mkF m 81 #[.val (.int nb), .val (.int ca), .val (.int cb), .val (.int fl), .val (.int ((ca &&& (255 : Int32)).toUInt32.toUInt16.toUInt32.toInt32)), .val (.int ((cb &&& (255 : Int32)).toUInt32.toUInt16.toUInt32.toInt32)), .val .null, .val .null, .val (.ref b599), .unset, .unset, .unset] [(.int fl)]))
        refine own_st (fun u_ k_ => XS.bipush X601.here hx rfl (hb hby at_81) k_) ?_
        refine own_st (fun u_ k_ => XS.iand X601.here hx rfl (hb hby at_83) rfl k_) ?_
        show own_Go p e below _ (T601.setTop (mkF m 84 #[.val (.int nb), .val (.int ca), .val (.int cb), .val (.int fl), .val (.int ((ca &&& (255 : Int32)).toUInt32.toUInt16.toUInt32.toInt32)), .val (.int ((cb &&& (255 : Int32)).toUInt32.toUInt16.toUInt32.toInt32)), .val .null, .val .null, .val (.ref b599), .unset, .unset, .unset] [(.int (fl &&& (8 : Int32)))]))
        by_cases hc604 : (fl &&& (8 : Int32)) = (0 : Int32)
        · refine own_st (fun u_ k_ => XS.ifYes X601.here hx rfl (pc0 := 84) (pc' := 91) rfl (hb hby at_84) rfl (XT.i0_eq_t hc604) (by decide) (by decide) k_) ?_
          refine own_st (fun u_ k_ => XS.iconst X601.here hx rfl (hb hby at_91) k_) ?_
          show own_Go p e below _ (T601.setTop (mkF m 92 #[.val (.int nb), .val (.int ca), .val (.int cb), .val (.int fl), .val (.int ((ca &&& (255 : Int32)).toUInt32.toUInt16.toUInt32.toInt32)), .val (.int ((cb &&& (255 : Int32)).toUInt32.toUInt16.toUInt32.toInt32)), .val .null, .val .null, .val (.ref b599), .unset, .unset, .unset] [(.int (0 : Int32))]))
          refine own_st (fun u_ k_ => XS.istore X601.here hx rfl (hb hby at_92) rfl (l' := #[.val (.int nb), .val (.int ca), .val (.int cb), .val (.int fl), .val (.int ((ca &&& (255 : Int32)).toUInt32.toUInt16.toUInt32.toInt32)), .val (.int ((cb &&& (255 : Int32)).toUInt32.toUInt16.toUInt32.toInt32)), .val .null, .val .null, .val (.ref b599), .val (.int (0 : Int32)), .unset, .unset]) rfl k_) ?_
          refine own_st (fun u_ k_ => XS.iload X601.here hx rfl (hb hby at_94) rfl k_) ?_
          show own_Go p e below _ (T601.setTop (mkF m 96 #[.val (.int nb), .val (.int ca), .val (.int cb), .val (.int fl), .val (.int ((ca &&& (255 : Int32)).toUInt32.toUInt16.toUInt32.toInt32)), .val (.int ((cb &&& (255 : Int32)).toUInt32.toUInt16.toUInt32.toInt32)), .val .null, .val .null, .val (.ref b599), .val (.int (0 : Int32)), .unset, .unset] [(.int (0 : Int32))]))
          refine own_st (fun u_ k_ => XS.ifYes X601.here hx rfl (pc0 := 96) (pc' := 113) rfl (hb hby at_96) rfl (XT.i0_eq_t (by decide)) (by decide) (by decide) k_) ?_
          refine own_st (fun u_ k_ => XS.aconstNull X601.here hx rfl (hb hby at_113) k_) ?_
          show own_Go p e below _ (T601.setTop (mkF m 114 #[.val (.int nb), .val (.int ca), .val (.int cb), .val (.int fl), .val (.int ((ca &&& (255 : Int32)).toUInt32.toUInt16.toUInt32.toInt32)), .val (.int ((cb &&& (255 : Int32)).toUInt32.toUInt16.toUInt32.toInt32)), .val .null, .val .null, .val (.ref b599), .val (.int (0 : Int32)), .unset, .unset] [.null]))
          refine own_st (fun u_ k_ => XS.astore X601.here hx rfl (hb hby at_114) rfl rfl (l' := #[.val (.int nb), .val (.int ca), .val (.int cb), .val (.int fl), .val (.int ((ca &&& (255 : Int32)).toUInt32.toUInt16.toUInt32.toInt32)), .val (.int ((cb &&& (255 : Int32)).toUInt32.toUInt16.toUInt32.toInt32)), .val .null, .val .null, .val (.ref b599), .val (.int (0 : Int32)), .val .null, .unset]) rfl k_) ?_
          obtain ⟨T605, h605, X605, e605, E605, A605, D605, U605, st605⟩ := newO X601 hx hZ hown (own_w hw 50 rfl) (own_w hw 51 rfl) (own_w hw 52 rfl) rfl (g := (mkF m 116 #[.val (.int nb), .val (.int ca), .val (.int cb), .val (.int fl), .val (.int ((ca &&& (255 : Int32)).toUInt32.toUInt16.toUInt32.toInt32)), .val (.int ((cb &&& (255 : Int32)).toUInt32.toUInt16.toUInt32.toInt32)), .val .null, .val .null, .val (.ref b599), .val (.int (0 : Int32)), .val .null, .unset] [])) rfl (hb hby at_116) (by decide) (by decide)
          obtain ⟨b605, g605⟩ : ∃ z, z = T601.heap.size := ⟨_, rfl⟩
          rw [← g605] at A605 D605 U605 st605
          have F605_number : Fld Z h605 b605 own_c_230 "number" "I" (.int (0 : Int32)) := D605 (Or.inr (own_w hw 63 rfl)) (ty := .int) own_lm_207
          have F605_id : Fld Z h605 b605 own_c_230 "id" "Ljava/lang/String;" .null := D605 (Or.inr (own_w hw 65 rfl)) (ty := (.object "java/lang/String")) own_lm_235
          have F605_data : Fld Z h605 b605 own_c_230 "data" "Ljava/lang/String;" .null := D605 (Or.inr (own_w hw 67 rfl)) (ty := (.object "java/lang/String")) own_lm_235
          have F605_manifestations : Fld Z h605 b605 own_c_230 "manifestations" "Ljava/util/List;" .null := D605 (Or.inr (own_w hw 69 rfl)) (ty := (.object "java/util/List")) own_lm_248
          have F605_refusal : Fld Z h605 b605 own_c_230 "refusal" "Ljava/lang/String;" .null := D605 (Or.inr (own_w hw 71 rfl)) (ty := (.object "java/lang/String")) own_lm_235
          refine own_st (fun u_ k_ => st605 u_ k_) ?_
          show own_Go p e below _ (T605.setTop (mkF m 119 #[.val (.int nb), .val (.int ca), .val (.int cb), .val (.int fl), .val (.int ((ca &&& (255 : Int32)).toUInt32.toUInt16.toUInt32.toInt32)), .val (.int ((cb &&& (255 : Int32)).toUInt32.toUInt16.toUInt32.toInt32)), .val .null, .val .null, .val (.ref b599), .val (.int (0 : Int32)), .val .null, .unset] [(.ref b605)]))
          refine own_st (fun u_ k_ => XS.dup X605.here hx rfl (hb hby at_119) rfl rfl k_) ?_
          refine own_st (fun u_ k_ => XS.iloadN X605.here hx rfl (hb hby at_120) rfl k_) ?_
          show own_Go p e below _ (T605.setTop (mkF m 121 #[.val (.int nb), .val (.int ca), .val (.int cb), .val (.int fl), .val (.int ((ca &&& (255 : Int32)).toUInt32.toUInt16.toUInt32.toInt32)), .val (.int ((cb &&& (255 : Int32)).toUInt32.toUInt16.toUInt32.toInt32)), .val .null, .val .null, .val (.ref b599), .val (.int (0 : Int32)), .val .null, .unset] [(.int nb), (.ref b605), (.ref b605)]))
          refine own_st (fun u_ k_ => XS.aload X605.here hx rfl (hb hby at_121) rfl rfl k_) ?_
          refine own_st (fun u_ k_ => XS.aload X605.here hx rfl (hb hby at_123) rfl rfl k_) ?_
          show own_Go p e below _ (T605.setTop (mkF m 125 #[.val (.int nb), .val (.int ca), .val (.int cb), .val (.int fl), .val (.int ((ca &&& (255 : Int32)).toUInt32.toUInt16.toUInt32.toInt32)), .val (.int ((cb &&& (255 : Int32)).toUInt32.toUInt16.toUInt32.toInt32)), .val .null, .val .null, .val (.ref b599), .val (.int (0 : Int32)), .val .null, .unset] [.null, .null, (.int nb), (.ref b605), (.ref b605)]))
          refine own_st (fun u_ k_ => XS.aload X605.here hx rfl (hb hby at_125) rfl rfl k_) ?_
          refine own_st (fun u_ k_ => XS.aload X605.here hx rfl (hb hby at_127) rfl rfl k_) ?_
          show own_Go p e below _ (T605.setTop (mkF m 129 #[.val (.int nb), .val (.int ca), .val (.int cb), .val (.int fl), .val (.int ((ca &&& (255 : Int32)).toUInt32.toUInt16.toUInt32.toInt32)), .val (.int ((cb &&& (255 : Int32)).toUInt32.toUInt16.toUInt32.toInt32)), .val .null, .val .null, .val (.ref b599), .val (.int (0 : Int32)), .val .null, .unset] [.null, (.ref b599), .null, .null, (.int nb), (.ref b605), (.ref b605)]))
          have O607 : Old Z n0 T601.heap := O602.keep K601 (allS g600 all0)
          have g606 : n0 ≤ b605 := Nat.le_trans (own_nl O607) (Nat.le_of_eq g605.symm)
          have O609 : Old Z n0 h605 := O607.ext E605
          obtain ⟨T608, v608, L608, X608, hQ608, st608⟩ := own_callN X605 hx hZ (y := own_y_266) rfl hown (own_w hw 53 rfl) (own_w hw 54 rfl) (own_w hw 52 rfl) (own_w hw 55 rfl) own_lm_279 (rmDL l Z a0 hw [] wcs wd hS b605 nb (.null : Value) (.null : Value) ((.ref b599) : Value) (.null : Value) h605 n0 O609 A605 g606 rfl rfl rfl rfl F605_number F605_id F605_data F605_manifestations F605_refusal) e605 own_pd_280 (a := b605) (argsL := [(.int nb), .null, .null, (.ref b599), .null]) (rest := [(.ref b605)]) rfl rfl (g := (mkF m 129 #[.val (.int nb), .val (.int ca), .val (.int cb), .val (.int fl), .val (.int ((ca &&& (255 : Int32)).toUInt32.toUInt16.toUInt32.toInt32)), .val (.int ((cb &&& (255 : Int32)).toUInt32.toUInt16.toUInt32.toInt32)), .val .null, .val .null, .val (.ref b599), .val (.int (0 : Int32)), .val .null, .unset] [.null, (.ref b599), .null, .null, (.int nb), (.ref b605), (.ref b605)])) rfl (by rw [hml]; rfl) rfl (hb hby at_129) (W := 1) rfl (by decide) (by decide) (by decide) (by decide)
          obtain ⟨rfl, M608, K608, F610, F611⟩ := hQ608
          have N608 := Fr.app N601 M608
          refine own_st (fun u_ k_ => st608 u_ k_) ?_
          show own_Go p e below _ (T608.setTop (mkF m 132 #[.val (.int nb), .val (.int ca), .val (.int cb), .val (.int fl), .val (.int ((ca &&& (255 : Int32)).toUInt32.toUInt16.toUInt32.toInt32)), .val (.int ((cb &&& (255 : Int32)).toUInt32.toUInt16.toUInt32.toInt32)), .val .null, .val .null, .val (.ref b599), .val (.int (0 : Int32)), .val .null, .unset] [(.ref b605)]))
          refine own_st (fun u_ k_ => XS.astore X608.here hx rfl (hb hby at_132) rfl rfl (l' := #[.val (.int nb), .val (.int ca), .val (.int cb), .val (.int fl), .val (.int ((ca &&& (255 : Int32)).toUInt32.toUInt16.toUInt32.toInt32)), .val (.int ((cb &&& (255 : Int32)).toUInt32.toUInt16.toUInt32.toInt32)), .val .null, .val .null, .val (.ref b599), .val (.int (0 : Int32)), .val .null, .val (.ref b605)]) rfl k_) ?_
          refine own_st (fun u_ k_ => XS.aload X608.here hx rfl (hb hby at_134) rfl rfl k_) ?_
          show own_Go p e below _ (T608.setTop (mkF m 136 #[.val (.int nb), .val (.int ca), .val (.int cb), .val (.int fl), .val (.int ((ca &&& (255 : Int32)).toUInt32.toUInt16.toUInt32.toInt32)), .val (.int ((cb &&& (255 : Int32)).toUInt32.toUInt16.toUInt32.toInt32)), .val .null, .val .null, .val (.ref b599), .val (.int (0 : Int32)), .val .null, .val (.ref b605)] [(.ref b605)]))
          have O613 : Old Z n0 T608.heap := O609.keep K608 (allS g606 all0)
          obtain ⟨T612, v612, L612, X612, hQ612, st612⟩ := own_callV X608 hx hZ (y := own_y_273) (z := own_y_273) hown (own_w hw 72 rfl) (own_w hw 73 rfl) (notFace_of_selects (args := #[]) (mvT hZ (own_w hw 75 rfl))) (own_w hw 75 rfl) (own_w hw 74 rfl) (own_w hw 52 rfl) (own_w hw 76 rfl) own_lm_279 (rmIN l Z a0 hw [] wcs wd hS b605 T608.heap n0 O613 F611) rfl F610 own_pd_281 (argsL := []) (rest := []) rfl rfl (g := (mkF m 136 #[.val (.int nb), .val (.int ca), .val (.int cb), .val (.int fl), .val (.int ((ca &&& (255 : Int32)).toUInt32.toUInt16.toUInt32.toInt32)), .val (.int ((cb &&& (255 : Int32)).toUInt32.toUInt16.toUInt32.toInt32)), .val .null, .val .null, .val (.ref b599), .val (.int (0 : Int32)), .val .null, .val (.ref b605)] [(.ref b605)])) rfl (by rw [hml]; rfl) rfl (hb hby at_136) (W := 0) rfl (by decide) (by decide) (by decide) (by decide)
          obtain ⟨rfl, M612, e612⟩ := hQ612
          have N612 := Fr.app N608 M612
          refine own_st (fun u_ k_ => st612 u_ k_) ?_
          show own_Go p e below _ (T612.setTop (mkF m 139 #[.val (.int nb), .val (.int ca), .val (.int cb), .val (.int fl), .val (.int ((ca &&& (255 : Int32)).toUInt32.toUInt16.toUInt32.toInt32)), .val (.int ((cb &&& (255 : Int32)).toUInt32.toUInt16.toUInt32.toInt32)), .val .null, .val .null, .val (.ref b599), .val (.int (0 : Int32)), .val .null, .val (.ref b605)] [(.int (0 : Int32))]))
          refine own_st (fun u_ k_ => XS.iload X612.here hx rfl (hb hby at_139) rfl k_) ?_
          refine own_st (fun u_ k_ => XS.icmpNo X612.here hx rfl (hb hby at_141) rfl (XT.ii_ne_f (by decide)) k_) ?_
          show own_Go p e below _ (T612.setTop (mkF m 144 #[.val (.int nb), .val (.int ca), .val (.int cb), .val (.int fl), .val (.int ((ca &&& (255 : Int32)).toUInt32.toUInt16.toUInt32.toInt32)), .val (.int ((cb &&& (255 : Int32)).toUInt32.toUInt16.toUInt32.toInt32)), .val .null, .val .null, .val (.ref b599), .val (.int (0 : Int32)), .val .null, .val (.ref b605)] []))
          refine own_st (fun u_ k_ => XS.iconst X612.here hx rfl (hb hby at_144) k_) ?_
          refine own_st (fun u_ k_ => XS.goto X612.here hx rfl (pc0 := 145) (pc' := 149) rfl (hb hby at_145) (by decide) (by decide) k_) ?_
          show own_Go p e below _ (T612.setTop (mkF m 149 #[.val (.int nb), .val (.int ca), .val (.int cb), .val (.int fl), .val (.int ((ca &&& (255 : Int32)).toUInt32.toUInt16.toUInt32.toInt32)), .val (.int ((cb &&& (255 : Int32)).toUInt32.toUInt16.toUInt32.toInt32)), .val .null, .val .null, .val (.ref b599), .val (.int (0 : Int32)), .val .null, .val (.ref b605)] [(.int (1 : Int32))]))
          have K614 : Keep h0 h599 [] := (Keep.refl h0 []).ext E599
          have z616 : h0.size ≤ b599 := Nat.le_trans (Nat.le_refl _) (Nat.le_of_eq g599.symm)
          have K615 : Keep h0 T601.heap [] := K614.trans K601 (allS (Or.inr z616) all0)
          have K617 : Keep h0 h605 [] := K615.ext E605
          have z619 : h0.size ≤ b605 := Nat.le_trans (Nat.le_trans E599.1 K601.1) (Nat.le_of_eq g605.symm)
          have K618 : Keep h0 T608.heap [] := K617.trans K608 (allS (Or.inr z619) all0)
          have R620 : CHr Z own_EL s.vm h0 s.vm h599 := R0.trans (CHr.ext E599 R0.1)
          have sf_622 : Safe Z own_EL s.vm h599 b599 := Safe.exa hZ_0.alike A599 own_lm_282 own_lm_283
          have R621 : CHr Z own_EL s.vm h0 s.vm T601.heap := R620.trans (CHr.keep K601 (sfS sf_622 sf0) R620.1)
          have R623 : CHr Z own_EL s.vm h0 s.vm h605 := R621.trans (CHr.ext E605 R621.1)
          have sf_625 : Safe Z own_EL s.vm h605 b605 := Safe.exa hZ_0.alike A605 own_lm_284 own_lm_285
          have R624 : CHr Z own_EL s.vm h0 s.vm T608.heap := R623.trans (CHr.keep K608 (sfS sf_625 sf0) R623.1)
          exact own_retXH X612 hSi0 (Nat.le_trans (Nat.zero_le _) (Nat.le_trans (Nat.le_trans (Nat.le_trans E599.1 K601.1) E605.1) K608.1)) e612 hZ (own_hEL hw) hs0 R624 hx hlk hret rfl (Or.inl ⟨rfl, by simp, _, rfl⟩) (hb hby at_149) (by decide) (by decide) (show Qrm0 Z wcs wd nb ca cb fl h0 n0 (some (.int (1 : Int32))) T612.heap _ from (by rw [e612]; exact ⟨rfl, N612, K618⟩))
        · refine own_st (fun u_ k_ => XS.ifNo X601.here hx rfl (hb hby at_84) rfl (XT.i0_eq_f hc604) k_) ?_
          refine own_st (fun u_ k_ => XS.iconst X601.here hx rfl (hb hby at_87) k_) ?_
          show own_Go p e below _ (T601.setTop (mkF m 88 #[.val (.int nb), .val (.int ca), .val (.int cb), .val (.int fl), .val (.int ((ca &&& (255 : Int32)).toUInt32.toUInt16.toUInt32.toInt32)), .val (.int ((cb &&& (255 : Int32)).toUInt32.toUInt16.toUInt32.toInt32)), .val .null, .val .null, .val (.ref b599), .unset, .unset, .unset] [(.int (1 : Int32))]))
          refine own_st (fun u_ k_ => XS.goto X601.here hx rfl (pc0 := 88) (pc' := 92) rfl (hb hby at_88) (by decide) (by decide) k_) ?_
          refine own_st (fun u_ k_ => XS.istore X601.here hx rfl (hb hby at_92) rfl (l' := #[.val (.int nb), .val (.int ca), .val (.int cb), .val (.int fl), .val (.int ((ca &&& (255 : Int32)).toUInt32.toUInt16.toUInt32.toInt32)), .val (.int ((cb &&& (255 : Int32)).toUInt32.toUInt16.toUInt32.toInt32)), .val .null, .val .null, .val (.ref b599), .val (.int (1 : Int32)), .unset, .unset]) rfl k_) ?_
          show own_Go p e below _ (T601.setTop (mkF m 94 #[.val (.int nb), .val (.int ca), .val (.int cb), .val (.int fl), .val (.int ((ca &&& (255 : Int32)).toUInt32.toUInt16.toUInt32.toInt32)), .val (.int ((cb &&& (255 : Int32)).toUInt32.toUInt16.toUInt32.toInt32)), .val .null, .val .null, .val (.ref b599), .val (.int (1 : Int32)), .unset, .unset] []))
          refine own_st (fun u_ k_ => XS.iload X601.here hx rfl (hb hby at_94) rfl k_) ?_
          refine own_st (fun u_ k_ => XS.ifNo X601.here hx rfl (hb hby at_96) rfl (XT.i0_eq_f (by decide)) k_) ?_
          show own_Go p e below _ (T601.setTop (mkF m 99 #[.val (.int nb), .val (.int ca), .val (.int cb), .val (.int fl), .val (.int ((ca &&& (255 : Int32)).toUInt32.toUInt16.toUInt32.toInt32)), .val (.int ((cb &&& (255 : Int32)).toUInt32.toUInt16.toUInt32.toInt32)), .val .null, .val .null, .val (.ref b599), .val (.int (1 : Int32)), .unset, .unset] []))
          refine own_st (fun u_ k_ => XS.iloadN X601.here hx rfl (hb hby at_99) rfl k_) ?_
          refine own_st (fun u_ k_ => XS.bipush X601.here hx rfl (hb hby at_100) k_) ?_
          show own_Go p e below _ (T601.setTop (mkF m 102 #[.val (.int nb), .val (.int ca), .val (.int cb), .val (.int fl), .val (.int ((ca &&& (255 : Int32)).toUInt32.toUInt16.toUInt32.toInt32)), .val (.int ((cb &&& (255 : Int32)).toUInt32.toUInt16.toUInt32.toInt32)), .val .null, .val .null, .val (.ref b599), .val (.int (1 : Int32)), .unset, .unset] [(.int (8 : Int32)), (.int fl)]))
          refine own_st (fun u_ k_ => XS.iushr X601.here hx rfl (hb hby at_102) rfl k_) ?_
          refine own_st (fun u_ k_ => XS.iload X601.here hx rfl (hb hby at_103) rfl k_) ?_
          show own_Go p e below _ (T601.setTop (mkF m 105 #[.val (.int nb), .val (.int ca), .val (.int cb), .val (.int fl), .val (.int ((ca &&& (255 : Int32)).toUInt32.toUInt16.toUInt32.toInt32)), .val (.int ((cb &&& (255 : Int32)).toUInt32.toUInt16.toUInt32.toInt32)), .val .null, .val .null, .val (.ref b599), .val (.int (1 : Int32)), .unset, .unset] [(.int ((ca &&& (255 : Int32)).toUInt32.toUInt16.toUInt32.toInt32)), (.int ((fl.toUInt32 >>> ((8 : Int32) &&& 31).toUInt32).toInt32))]))
          refine own_st (fun u_ k_ => XS.iload X601.here hx rfl (hb hby at_105) rfl k_) ?_
          have O627 : Old Z n0 T601.heap := O602.keep K601 (allS g600 all0)
          have R628 : CHr Z own_EL s.vm h0 s.vm h599 := R0.trans (CHr.ext E599 R0.1)
          have sf_630 : Safe Z own_EL s.vm h599 b599 := Safe.exa hZ_0.alike A599 own_lm_282 own_lm_283
          have R629 : CHr Z own_EL s.vm h0 s.vm T601.heap := R628.trans (CHr.keep K601 (sfS sf_630 sf0) R628.1)
          obtain ⟨T626, v626, L626, X626, Si626, hZ626, hown626, hQ626, hr626, st626⟩ := own_callSH X601 hx hZ hSi0 (Nat.le_trans (Nat.zero_le _) (Nat.le_trans E599.1 K601.1)) (own_hEL hw) R629.1 own_sf0 (y := own_y_188) hown (own_w hw 0 rfl) (own_w hw 1 rfl) (own_w hw 2 rfl) (own_w hw 3 rfl) own_lm_276 (rmStr l Z a0 hw [] wcs wd hS ((fl.toUInt32 >>> ((8 : Int32) &&& 31).toUInt32).toInt32) ((ca &&& (255 : Int32)).toUInt32.toUInt16.toUInt32.toInt32) ((cb &&& (255 : Int32)).toUInt32.toUInt16.toUInt32.toInt32) T601.heap n0 O627 (own_c255 _) (own_c255n _) (own_c255n _)) rfl own_pd_277 (argsL := [(.int ((fl.toUInt32 >>> ((8 : Int32) &&& 31).toUInt32).toInt32)), (.int ((ca &&& (255 : Int32)).toUInt32.toUInt16.toUInt32.toInt32)), (.int ((cb &&& (255 : Int32)).toUInt32.toUInt16.toUInt32.toInt32))]) (rest := []) rfl rfl (g := (mkF m 107 #[.val (.int nb), .val (.int ca), .val (.int cb), .val (.int fl), .val (.int ((ca &&& (255 : Int32)).toUInt32.toUInt16.toUInt32.toInt32)), .val (.int ((cb &&& (255 : Int32)).toUInt32.toUInt16.toUInt32.toInt32)), .val .null, .val .null, .val (.ref b599), .val (.int (1 : Int32)), .unset, .unset] [(.int ((cb &&& (255 : Int32)).toUInt32.toUInt16.toUInt32.toInt32)), (.int ((ca &&& (255 : Int32)).toUInt32.toUInt16.toUInt32.toInt32)), (.int ((fl.toUInt32 >>> ((8 : Int32) &&& 31).toUInt32).toInt32))])) rfl (by rw [hml]; rfl) rfl (hb hby at_107) (W := 0) rfl (by decide) (by decide) (by decide) (by decide)
          obtain ⟨r_631, rfl, M626, K626, F632⟩ := hQ626
          have N626 := Fr.app N601 M626
          refine own_st (fun u_ k_ => st626 u_ k_) ?_
          show own_Go p e below _ (T626.setTop (mkF m 110 #[.val (.int nb), .val (.int ca), .val (.int cb), .val (.int fl), .val (.int ((ca &&& (255 : Int32)).toUInt32.toUInt16.toUInt32.toInt32)), .val (.int ((cb &&& (255 : Int32)).toUInt32.toUInt16.toUInt32.toInt32)), .val .null, .val .null, .val (.ref b599), .val (.int (1 : Int32)), .unset, .unset] [(.ref r_631)]))
          refine own_st (fun u_ k_ => XS.goto X626.here hx rfl (pc0 := 110) (pc' := 114) rfl (hb hby at_110) (by decide) (by decide) k_) ?_
          refine own_st (fun u_ k_ => XS.astore X626.here hx rfl (hb hby at_114) rfl rfl (l' := #[.val (.int nb), .val (.int ca), .val (.int cb), .val (.int fl), .val (.int ((ca &&& (255 : Int32)).toUInt32.toUInt16.toUInt32.toInt32)), .val (.int ((cb &&& (255 : Int32)).toUInt32.toUInt16.toUInt32.toInt32)), .val .null, .val .null, .val (.ref b599), .val (.int (1 : Int32)), .val (.ref r_631), .unset]) rfl k_) ?_
          show own_Go p e below _ (T626.setTop (mkF m 116 #[.val (.int nb), .val (.int ca), .val (.int cb), .val (.int fl), .val (.int ((ca &&& (255 : Int32)).toUInt32.toUInt16.toUInt32.toInt32)), .val (.int ((cb &&& (255 : Int32)).toUInt32.toUInt16.toUInt32.toInt32)), .val .null, .val .null, .val (.ref b599), .val (.int (1 : Int32)), .val (.ref r_631), .unset] []))
          obtain ⟨T633, h633, X633, e633, E633, A633, D633, U633, st633⟩ := newO X626 hx hZ626 hown626 (own_w hw 50 rfl) (own_w hw 51 rfl) (own_w hw 52 rfl) rfl (g := (mkF m 116 #[.val (.int nb), .val (.int ca), .val (.int cb), .val (.int fl), .val (.int ((ca &&& (255 : Int32)).toUInt32.toUInt16.toUInt32.toInt32)), .val (.int ((cb &&& (255 : Int32)).toUInt32.toUInt16.toUInt32.toInt32)), .val .null, .val .null, .val (.ref b599), .val (.int (1 : Int32)), .val (.ref r_631), .unset] [])) rfl (hb hby at_116) (by decide) (by decide)
          obtain ⟨b633, g633⟩ : ∃ z, z = T626.heap.size := ⟨_, rfl⟩
          rw [← g633] at A633 D633 U633 st633
          have F633_number : Fld Z h633 b633 own_c_230 "number" "I" (.int (0 : Int32)) := D633 (Or.inr (own_w hw 63 rfl)) (ty := .int) own_lm_207
          have F633_id : Fld Z h633 b633 own_c_230 "id" "Ljava/lang/String;" .null := D633 (Or.inr (own_w hw 65 rfl)) (ty := (.object "java/lang/String")) own_lm_235
          have F633_data : Fld Z h633 b633 own_c_230 "data" "Ljava/lang/String;" .null := D633 (Or.inr (own_w hw 67 rfl)) (ty := (.object "java/lang/String")) own_lm_235
          have F633_manifestations : Fld Z h633 b633 own_c_230 "manifestations" "Ljava/util/List;" .null := D633 (Or.inr (own_w hw 69 rfl)) (ty := (.object "java/util/List")) own_lm_248
          have F633_refusal : Fld Z h633 b633 own_c_230 "refusal" "Ljava/lang/String;" .null := D633 (Or.inr (own_w hw 71 rfl)) (ty := (.object "java/lang/String")) own_lm_235
          refine own_st (fun u_ k_ => st633 u_ k_) ?_
          show own_Go p e below _ (T633.setTop (mkF m 119 #[.val (.int nb), .val (.int ca), .val (.int cb), .val (.int fl), .val (.int ((ca &&& (255 : Int32)).toUInt32.toUInt16.toUInt32.toInt32)), .val (.int ((cb &&& (255 : Int32)).toUInt32.toUInt16.toUInt32.toInt32)), .val .null, .val .null, .val (.ref b599), .val (.int (1 : Int32)), .val (.ref r_631), .unset] [(.ref b633)]))
          refine own_st (fun u_ k_ => XS.dup X633.here hx rfl (hb hby at_119) rfl rfl k_) ?_
          refine own_st (fun u_ k_ => XS.iloadN X633.here hx rfl (hb hby at_120) rfl k_) ?_
          show own_Go p e below _ (T633.setTop (mkF m 121 #[.val (.int nb), .val (.int ca), .val (.int cb), .val (.int fl), .val (.int ((ca &&& (255 : Int32)).toUInt32.toUInt16.toUInt32.toInt32)), .val (.int ((cb &&& (255 : Int32)).toUInt32.toUInt16.toUInt32.toInt32)), .val .null, .val .null, .val (.ref b599), .val (.int (1 : Int32)), .val (.ref r_631), .unset] [(.int nb), (.ref b633), (.ref b633)]))
          refine own_st (fun u_ k_ => XS.aload X633.here hx rfl (hb hby at_121) rfl rfl k_) ?_
          refine own_st (fun u_ k_ => XS.aload X633.here hx rfl (hb hby at_123) rfl rfl k_) ?_
          show own_Go p e below _ (T633.setTop (mkF m 125 #[.val (.int nb), .val (.int ca), .val (.int cb), .val (.int fl), .val (.int ((ca &&& (255 : Int32)).toUInt32.toUInt16.toUInt32.toInt32)), .val (.int ((cb &&& (255 : Int32)).toUInt32.toUInt16.toUInt32.toInt32)), .val .null, .val .null, .val (.ref b599), .val (.int (1 : Int32)), .val (.ref r_631), .unset] [.null, .null, (.int nb), (.ref b633), (.ref b633)]))
          refine own_st (fun u_ k_ => XS.aload X633.here hx rfl (hb hby at_125) rfl rfl k_) ?_
          refine own_st (fun u_ k_ => XS.aload X633.here hx rfl (hb hby at_127) rfl rfl k_) ?_
          show own_Go p e below _ (T633.setTop (mkF m 129 #[.val (.int nb), .val (.int ca), .val (.int cb), .val (.int fl), .val (.int ((ca &&& (255 : Int32)).toUInt32.toUInt16.toUInt32.toInt32)), .val (.int ((cb &&& (255 : Int32)).toUInt32.toUInt16.toUInt32.toInt32)), .val .null, .val .null, .val (.ref b599), .val (.int (1 : Int32)), .val (.ref r_631), .unset] [(.ref r_631), (.ref b599), .null, .null, (.int nb), (.ref b633), (.ref b633)]))
          have O635 : Old Z n0 T626.heap := O627.keep K626 all0
          have g634 : n0 ≤ b633 := Nat.le_trans (own_nl O635) (Nat.le_of_eq g633.symm)
          have O637 : Old Z n0 h633 := O635.ext E633
          obtain ⟨T636, v636, L636, X636, hQ636, st636⟩ := own_callN X633 hx hZ626 (y := own_y_266) rfl hown626 (own_w hw 53 rfl) (own_w hw 54 rfl) (own_w hw 52 rfl) (own_w hw 55 rfl) own_lm_279 (rmDL l Z a0 hw [] wcs wd hS b633 nb (.null : Value) (.null : Value) ((.ref b599) : Value) ((.ref r_631) : Value) h633 n0 O637 A633 g634 rfl rfl rfl rfl F633_number F633_id F633_data F633_manifestations F633_refusal) e633 own_pd_280 (a := b633) (argsL := [(.int nb), .null, .null, (.ref b599), (.ref r_631)]) (rest := [(.ref b633)]) rfl rfl (g := (mkF m 129 #[.val (.int nb), .val (.int ca), .val (.int cb), .val (.int fl), .val (.int ((ca &&& (255 : Int32)).toUInt32.toUInt16.toUInt32.toInt32)), .val (.int ((cb &&& (255 : Int32)).toUInt32.toUInt16.toUInt32.toInt32)), .val .null, .val .null, .val (.ref b599), .val (.int (1 : Int32)), .val (.ref r_631), .unset] [(.ref r_631), (.ref b599), .null, .null, (.int nb), (.ref b633), (.ref b633)])) rfl (by rw [hml]; rfl) rfl (hb hby at_129) (W := 1) rfl (by decide) (by decide) (by decide) (by decide)
          obtain ⟨rfl, M636, K636, F638, F639⟩ := hQ636
          have N636 := Fr.app N626 M636
          refine own_st (fun u_ k_ => st636 u_ k_) ?_
          show own_Go p e below _ (T636.setTop (mkF m 132 #[.val (.int nb), .val (.int ca), .val (.int cb), .val (.int fl), .val (.int ((ca &&& (255 : Int32)).toUInt32.toUInt16.toUInt32.toInt32)), .val (.int ((cb &&& (255 : Int32)).toUInt32.toUInt16.toUInt32.toInt32)), .val .null, .val .null, .val (.ref b599), .val (.int (1 : Int32)), .val (.ref r_631), .unset] [(.ref b633)]))
          refine own_st (fun u_ k_ => XS.astore X636.here hx rfl (hb hby at_132) rfl rfl (l' := #[.val (.int nb), .val (.int ca), .val (.int cb), .val (.int fl), .val (.int ((ca &&& (255 : Int32)).toUInt32.toUInt16.toUInt32.toInt32)), .val (.int ((cb &&& (255 : Int32)).toUInt32.toUInt16.toUInt32.toInt32)), .val .null, .val .null, .val (.ref b599), .val (.int (1 : Int32)), .val (.ref r_631), .val (.ref b633)]) rfl k_) ?_
          refine own_st (fun u_ k_ => XS.aload X636.here hx rfl (hb hby at_134) rfl rfl k_) ?_
          show own_Go p e below _ (T636.setTop (mkF m 136 #[.val (.int nb), .val (.int ca), .val (.int cb), .val (.int fl), .val (.int ((ca &&& (255 : Int32)).toUInt32.toUInt16.toUInt32.toInt32)), .val (.int ((cb &&& (255 : Int32)).toUInt32.toUInt16.toUInt32.toInt32)), .val .null, .val .null, .val (.ref b599), .val (.int (1 : Int32)), .val (.ref r_631), .val (.ref b633)] [(.ref b633)]))
          have O641 : Old Z n0 T636.heap := O637.keep K636 (allS g634 all0)
          obtain ⟨T640, v640, L640, X640, hQ640, st640⟩ := own_callV X636 hx hZ626 (y := own_y_273) (z := own_y_273) hown626 (own_w hw 72 rfl) (own_w hw 73 rfl) (notFace_of_selects (args := #[]) (mvT hZ626 (own_w hw 75 rfl))) (own_w hw 75 rfl) (own_w hw 74 rfl) (own_w hw 52 rfl) (own_w hw 76 rfl) own_lm_279 (rmIR l Z a0 hw [] wcs wd hS b633 r_631 T636.heap n0 O641 F639) rfl F638 own_pd_281 (argsL := []) (rest := []) rfl rfl (g := (mkF m 136 #[.val (.int nb), .val (.int ca), .val (.int cb), .val (.int fl), .val (.int ((ca &&& (255 : Int32)).toUInt32.toUInt16.toUInt32.toInt32)), .val (.int ((cb &&& (255 : Int32)).toUInt32.toUInt16.toUInt32.toInt32)), .val .null, .val .null, .val (.ref b599), .val (.int (1 : Int32)), .val (.ref r_631), .val (.ref b633)] [(.ref b633)])) rfl (by rw [hml]; rfl) rfl (hb hby at_136) (W := 0) rfl (by decide) (by decide) (by decide) (by decide)
          obtain ⟨rfl, M640, e640⟩ := hQ640
          have N640 := Fr.app N636 M640
          refine own_st (fun u_ k_ => st640 u_ k_) ?_
          show own_Go p e below _ (T640.setTop (mkF m 139 #[.val (.int nb), .val (.int ca), .val (.int cb), .val (.int fl), .val (.int ((ca &&& (255 : Int32)).toUInt32.toUInt16.toUInt32.toInt32)), .val (.int ((cb &&& (255 : Int32)).toUInt32.toUInt16.toUInt32.toInt32)), .val .null, .val .null, .val (.ref b599), .val (.int (1 : Int32)), .val (.ref r_631), .val (.ref b633)] [(.int (1 : Int32))]))
          refine own_st (fun u_ k_ => XS.iload X640.here hx rfl (hb hby at_139) rfl k_) ?_
          refine own_st (fun u_ k_ => XS.icmpNo X640.here hx rfl (hb hby at_141) rfl (XT.ii_ne_f (by decide)) k_) ?_
          show own_Go p e below _ (T640.setTop (mkF m 144 #[.val (.int nb), .val (.int ca), .val (.int cb), .val (.int fl), .val (.int ((ca &&& (255 : Int32)).toUInt32.toUInt16.toUInt32.toInt32)), .val (.int ((cb &&& (255 : Int32)).toUInt32.toUInt16.toUInt32.toInt32)), .val .null, .val .null, .val (.ref b599), .val (.int (1 : Int32)), .val (.ref r_631), .val (.ref b633)] []))
          refine own_st (fun u_ k_ => XS.iconst X640.here hx rfl (hb hby at_144) k_) ?_
          refine own_st (fun u_ k_ => XS.goto X640.here hx rfl (pc0 := 145) (pc' := 149) rfl (hb hby at_145) (by decide) (by decide) k_) ?_
          show own_Go p e below _ (T640.setTop (mkF m 149 #[.val (.int nb), .val (.int ca), .val (.int cb), .val (.int fl), .val (.int ((ca &&& (255 : Int32)).toUInt32.toUInt16.toUInt32.toInt32)), .val (.int ((cb &&& (255 : Int32)).toUInt32.toUInt16.toUInt32.toInt32)), .val .null, .val .null, .val (.ref b599), .val (.int (1 : Int32)), .val (.ref r_631), .val (.ref b633)] [(.int (1 : Int32))]))
          have K642 : Keep h0 h599 [] := (Keep.refl h0 []).ext E599
          have z644 : h0.size ≤ b599 := Nat.le_trans (Nat.le_refl _) (Nat.le_of_eq g599.symm)
          have K643 : Keep h0 T601.heap [] := K642.trans K601 (allS (Or.inr z644) all0)
          have K645 : Keep h0 T626.heap [] := K643.trans K626 all0
          have K646 : Keep h0 h633 [] := K645.ext E633
          have z648 : h0.size ≤ b633 := Nat.le_trans (Nat.le_trans (Nat.le_trans E599.1 K601.1) K626.1) (Nat.le_of_eq g633.symm)
          have K647 : Keep h0 T636.heap [] := K646.trans K636 (allS (Or.inr z648) all0)
          have R649 : CHr Z own_EL s.vm h0 T626.vm T626.heap := R629.trans hr626
          have R650 : CHr Z own_EL s.vm h0 T626.vm h633 := R649.trans (CHr.ext E633 R649.1)
          have sf_652 : Safe Z own_EL T626.vm h633 b633 := Safe.exa hZ626.alike A633 own_lm_284 own_lm_285
          have R651 : CHr Z own_EL s.vm h0 T626.vm T636.heap := R650.trans (CHr.keep K636 (sfS sf_652 sf0) R650.1)
          exact own_retXH X640 Si626 (Nat.le_trans (Nat.le_refl _) (Nat.le_trans E633.1 K636.1)) e640 hZ626 (own_hEL hw) hs0 R651 hx hlk hret rfl (Or.inl ⟨rfl, by simp, _, rfl⟩) (hb hby at_149) (by decide) (by decide) (show Qrm0 Z wcs wd nb ca cb fl h0 n0 (some (.int (1 : Int32))) T640.heap _ from (by rw [e640]; exact ⟨rfl, N640, K647⟩))
      · refine own_st (fun u_ k_ => XS.ifNo X0.here hx rfl (hb hby at_64) rfl (XT.i0_eq_f hc598) k_) ?_
        show own_Go p e below _ (s₁.setTop (mkF m 67 #[.val (.int nb), .val (.int ca), .val (.int cb), .val (.int fl), .val (.int ((ca &&& (255 : Int32)).toUInt32.toUInt16.toUInt32.toInt32)), .val (.int ((cb &&& (255 : Int32)).toUInt32.toUInt16.toUInt32.toInt32)), .val .null, .val .null, .unset, .unset, .unset, .unset] []))
        refine own_st (fun u_ k_ => XS.aconstNull X0.here hx rfl (hb hby at_67) k_) ?_
        refine own_st (fun u_ k_ => XS.goto X0.here hx rfl (pc0 := 68) (pc' := 78) rfl (hb hby at_68) (by decide) (by decide) k_) ?_
        show own_Go p e below _ (s₁.setTop (mkF m 78 #[.val (.int nb), .val (.int ca), .val (.int cb), .val (.int fl), .val (.int ((ca &&& (255 : Int32)).toUInt32.toUInt16.toUInt32.toInt32)), .val (.int ((cb &&& (255 : Int32)).toUInt32.toUInt16.toUInt32.toInt32)), .val .null, .val .null, .unset, .unset, .unset, .unset] [.null]))
        refine own_st (fun u_ k_ => XS.astore X0.here hx rfl (hb hby at_78) rfl rfl (l' := #[.val (.int nb), .val (.int ca), .val (.int cb), .val (.int fl), .val (.int ((ca &&& (255 : Int32)).toUInt32.toUInt16.toUInt32.toInt32)), .val (.int ((cb &&& (255 : Int32)).toUInt32.toUInt16.toUInt32.toInt32)), .val .null, .val .null, .val .null, .unset, .unset, .unset]) rfl k_) ?_
        refine own_st (fun u_ k_ => XS.iloadN X0.here hx rfl (hb hby at_80) rfl k_) ?_
        show own_Go p e below _ (s₁.setTop (mkF m 81 #[.val (.int nb), .val (.int ca), .val (.int cb), .val (.int fl), .val (.int ((ca &&& (255 : Int32)).toUInt32.toUInt16.toUInt32.toInt32)), .val (.int ((cb &&& (255 : Int32)).toUInt32.toUInt16.toUInt32.toInt32)), .val .null, .val .null, .val .null, .unset, .unset, .unset] [(.int fl)]))
        refine own_st (fun u_ k_ => XS.bipush X0.here hx rfl (hb hby at_81) k_) ?_
        refine own_st (fun u_ k_ => XS.iand X0.here hx rfl (hb hby at_83) rfl k_) ?_
        show own_Go p e below _ (s₁.setTop (mkF m 84 #[.val (.int nb), .val (.int ca), .val (.int cb), .val (.int fl), .val (.int ((ca &&& (255 : Int32)).toUInt32.toUInt16.toUInt32.toInt32)), .val (.int ((cb &&& (255 : Int32)).toUInt32.toUInt16.toUInt32.toInt32)), .val .null, .val .null, .val .null, .unset, .unset, .unset] [(.int (fl &&& (8 : Int32)))]))
        by_cases hc653 : (fl &&& (8 : Int32)) = (0 : Int32)
        · refine own_st (fun u_ k_ => XS.ifYes X0.here hx rfl (pc0 := 84) (pc' := 91) rfl (hb hby at_84) rfl (XT.i0_eq_t hc653) (by decide) (by decide) k_) ?_
          refine own_st (fun u_ k_ => XS.iconst X0.here hx rfl (hb hby at_91) k_) ?_
          show own_Go p e below _ (s₁.setTop (mkF m 92 #[.val (.int nb), .val (.int ca), .val (.int cb), .val (.int fl), .val (.int ((ca &&& (255 : Int32)).toUInt32.toUInt16.toUInt32.toInt32)), .val (.int ((cb &&& (255 : Int32)).toUInt32.toUInt16.toUInt32.toInt32)), .val .null, .val .null, .val .null, .unset, .unset, .unset] [(.int (0 : Int32))]))
          refine own_st (fun u_ k_ => XS.istore X0.here hx rfl (hb hby at_92) rfl (l' := #[.val (.int nb), .val (.int ca), .val (.int cb), .val (.int fl), .val (.int ((ca &&& (255 : Int32)).toUInt32.toUInt16.toUInt32.toInt32)), .val (.int ((cb &&& (255 : Int32)).toUInt32.toUInt16.toUInt32.toInt32)), .val .null, .val .null, .val .null, .val (.int (0 : Int32)), .unset, .unset]) rfl k_) ?_
          refine own_st (fun u_ k_ => XS.iload X0.here hx rfl (hb hby at_94) rfl k_) ?_
          show own_Go p e below _ (s₁.setTop (mkF m 96 #[.val (.int nb), .val (.int ca), .val (.int cb), .val (.int fl), .val (.int ((ca &&& (255 : Int32)).toUInt32.toUInt16.toUInt32.toInt32)), .val (.int ((cb &&& (255 : Int32)).toUInt32.toUInt16.toUInt32.toInt32)), .val .null, .val .null, .val .null, .val (.int (0 : Int32)), .unset, .unset] [(.int (0 : Int32))]))
          refine own_st (fun u_ k_ => XS.ifYes X0.here hx rfl (pc0 := 96) (pc' := 113) rfl (hb hby at_96) rfl (XT.i0_eq_t (by decide)) (by decide) (by decide) k_) ?_
          refine own_st (fun u_ k_ => XS.aconstNull X0.here hx rfl (hb hby at_113) k_) ?_
          show own_Go p e below _ (s₁.setTop (mkF m 114 #[.val (.int nb), .val (.int ca), .val (.int cb), .val (.int fl), .val (.int ((ca &&& (255 : Int32)).toUInt32.toUInt16.toUInt32.toInt32)), .val (.int ((cb &&& (255 : Int32)).toUInt32.toUInt16.toUInt32.toInt32)), .val .null, .val .null, .val .null, .val (.int (0 : Int32)), .unset, .unset] [.null]))
          refine own_st (fun u_ k_ => XS.astore X0.here hx rfl (hb hby at_114) rfl rfl (l' := #[.val (.int nb), .val (.int ca), .val (.int cb), .val (.int fl), .val (.int ((ca &&& (255 : Int32)).toUInt32.toUInt16.toUInt32.toInt32)), .val (.int ((cb &&& (255 : Int32)).toUInt32.toUInt16.toUInt32.toInt32)), .val .null, .val .null, .val .null, .val (.int (0 : Int32)), .val .null, .unset]) rfl k_) ?_
          obtain ⟨T654, h654, X654, e654, E654, A654, D654, U654, st654⟩ := newO X0 hx hZ hown (own_w hw 50 rfl) (own_w hw 51 rfl) (own_w hw 52 rfl) e0 (g := (mkF m 116 #[.val (.int nb), .val (.int ca), .val (.int cb), .val (.int fl), .val (.int ((ca &&& (255 : Int32)).toUInt32.toUInt16.toUInt32.toInt32)), .val (.int ((cb &&& (255 : Int32)).toUInt32.toUInt16.toUInt32.toInt32)), .val .null, .val .null, .val .null, .val (.int (0 : Int32)), .val .null, .unset] [])) rfl (hb hby at_116) (by decide) (by decide)
          obtain ⟨b654, g654⟩ : ∃ z, z = h0.size := ⟨_, rfl⟩
          rw [← g654] at A654 D654 U654 st654
          have F654_number : Fld Z h654 b654 own_c_230 "number" "I" (.int (0 : Int32)) := D654 (Or.inr (own_w hw 63 rfl)) (ty := .int) own_lm_207
          have F654_id : Fld Z h654 b654 own_c_230 "id" "Ljava/lang/String;" .null := D654 (Or.inr (own_w hw 65 rfl)) (ty := (.object "java/lang/String")) own_lm_235
          have F654_data : Fld Z h654 b654 own_c_230 "data" "Ljava/lang/String;" .null := D654 (Or.inr (own_w hw 67 rfl)) (ty := (.object "java/lang/String")) own_lm_235
          have F654_manifestations : Fld Z h654 b654 own_c_230 "manifestations" "Ljava/util/List;" .null := D654 (Or.inr (own_w hw 69 rfl)) (ty := (.object "java/util/List")) own_lm_248
          have F654_refusal : Fld Z h654 b654 own_c_230 "refusal" "Ljava/lang/String;" .null := D654 (Or.inr (own_w hw 71 rfl)) (ty := (.object "java/lang/String")) own_lm_235
          refine own_st (fun u_ k_ => st654 u_ k_) ?_
          show own_Go p e below _ (T654.setTop (mkF m 119 #[.val (.int nb), .val (.int ca), .val (.int cb), .val (.int fl), .val (.int ((ca &&& (255 : Int32)).toUInt32.toUInt16.toUInt32.toInt32)), .val (.int ((cb &&& (255 : Int32)).toUInt32.toUInt16.toUInt32.toInt32)), .val .null, .val .null, .val .null, .val (.int (0 : Int32)), .val .null, .unset] [(.ref b654)]))
          refine own_st (fun u_ k_ => XS.dup X654.here hx rfl (hb hby at_119) rfl rfl k_) ?_
          refine own_st (fun u_ k_ => XS.iloadN X654.here hx rfl (hb hby at_120) rfl k_) ?_
          show own_Go p e below _ (T654.setTop (mkF m 121 #[.val (.int nb), .val (.int ca), .val (.int cb), .val (.int fl), .val (.int ((ca &&& (255 : Int32)).toUInt32.toUInt16.toUInt32.toInt32)), .val (.int ((cb &&& (255 : Int32)).toUInt32.toUInt16.toUInt32.toInt32)), .val .null, .val .null, .val .null, .val (.int (0 : Int32)), .val .null, .unset] [(.int nb), (.ref b654), (.ref b654)]))
          refine own_st (fun u_ k_ => XS.aload X654.here hx rfl (hb hby at_121) rfl rfl k_) ?_
          refine own_st (fun u_ k_ => XS.aload X654.here hx rfl (hb hby at_123) rfl rfl k_) ?_
          show own_Go p e below _ (T654.setTop (mkF m 125 #[.val (.int nb), .val (.int ca), .val (.int cb), .val (.int fl), .val (.int ((ca &&& (255 : Int32)).toUInt32.toUInt16.toUInt32.toInt32)), .val (.int ((cb &&& (255 : Int32)).toUInt32.toUInt16.toUInt32.toInt32)), .val .null, .val .null, .val .null, .val (.int (0 : Int32)), .val .null, .unset] [.null, .null, (.int nb), (.ref b654), (.ref b654)]))
          refine own_st (fun u_ k_ => XS.aload X654.here hx rfl (hb hby at_125) rfl rfl k_) ?_
          refine own_st (fun u_ k_ => XS.aload X654.here hx rfl (hb hby at_127) rfl rfl k_) ?_
          show own_Go p e below _ (T654.setTop (mkF m 129 #[.val (.int nb), .val (.int ca), .val (.int cb), .val (.int fl), .val (.int ((ca &&& (255 : Int32)).toUInt32.toUInt16.toUInt32.toInt32)), .val (.int ((cb &&& (255 : Int32)).toUInt32.toUInt16.toUInt32.toInt32)), .val .null, .val .null, .val .null, .val (.int (0 : Int32)), .val .null, .unset] [.null, .null, .null, .null, (.int nb), (.ref b654), (.ref b654)]))
          have g655 : n0 ≤ b654 := Nat.le_trans (own_nl O0) (Nat.le_of_eq g654.symm)
          have O657 : Old Z n0 h654 := O0.ext E654
          obtain ⟨T656, v656, L656, X656, hQ656, st656⟩ := own_callN X654 hx hZ (y := own_y_266) rfl hown (own_w hw 53 rfl) (own_w hw 54 rfl) (own_w hw 52 rfl) (own_w hw 55 rfl) own_lm_279 (rmDL l Z a0 hw [] wcs wd hS b654 nb (.null : Value) (.null : Value) (.null : Value) (.null : Value) h654 n0 O657 A654 g655 rfl rfl rfl rfl F654_number F654_id F654_data F654_manifestations F654_refusal) e654 own_pd_280 (a := b654) (argsL := [(.int nb), .null, .null, .null, .null]) (rest := [(.ref b654)]) rfl rfl (g := (mkF m 129 #[.val (.int nb), .val (.int ca), .val (.int cb), .val (.int fl), .val (.int ((ca &&& (255 : Int32)).toUInt32.toUInt16.toUInt32.toInt32)), .val (.int ((cb &&& (255 : Int32)).toUInt32.toUInt16.toUInt32.toInt32)), .val .null, .val .null, .val .null, .val (.int (0 : Int32)), .val .null, .unset] [.null, .null, .null, .null, (.int nb), (.ref b654), (.ref b654)])) rfl (by rw [hml]; rfl) rfl (hb hby at_129) (W := 1) rfl (by decide) (by decide) (by decide) (by decide)
          obtain ⟨rfl, M656, K656, F658, F659⟩ := hQ656
          have N656 := Fr.app N0 M656
          refine own_st (fun u_ k_ => st656 u_ k_) ?_
          show own_Go p e below _ (T656.setTop (mkF m 132 #[.val (.int nb), .val (.int ca), .val (.int cb), .val (.int fl), .val (.int ((ca &&& (255 : Int32)).toUInt32.toUInt16.toUInt32.toInt32)), .val (.int ((cb &&& (255 : Int32)).toUInt32.toUInt16.toUInt32.toInt32)), .val .null, .val .null, .val .null, .val (.int (0 : Int32)), .val .null, .unset] [(.ref b654)]))
          refine own_st (fun u_ k_ => XS.astore X656.here hx rfl (hb hby at_132) rfl rfl (l' := #[.val (.int nb), .val (.int ca), .val (.int cb), .val (.int fl), .val (.int ((ca &&& (255 : Int32)).toUInt32.toUInt16.toUInt32.toInt32)), .val (.int ((cb &&& (255 : Int32)).toUInt32.toUInt16.toUInt32.toInt32)), .val .null, .val .null, .val .null, .val (.int (0 : Int32)), .val .null, .val (.ref b654)]) rfl k_) ?_
          refine own_st (fun u_ k_ => XS.aload X656.here hx rfl (hb hby at_134) rfl rfl k_) ?_
          show own_Go p e below _ (T656.setTop (mkF m 136 #[.val (.int nb), .val (.int ca), .val (.int cb), .val (.int fl), .val (.int ((ca &&& (255 : Int32)).toUInt32.toUInt16.toUInt32.toInt32)), .val (.int ((cb &&& (255 : Int32)).toUInt32.toUInt16.toUInt32.toInt32)), .val .null, .val .null, .val .null, .val (.int (0 : Int32)), .val .null, .val (.ref b654)] [(.ref b654)]))
          have O661 : Old Z n0 T656.heap := O657.keep K656 (allS g655 all0)
          obtain ⟨T660, v660, L660, X660, hQ660, st660⟩ := own_callV X656 hx hZ (y := own_y_273) (z := own_y_273) hown (own_w hw 72 rfl) (own_w hw 73 rfl) (notFace_of_selects (args := #[]) (mvT hZ (own_w hw 75 rfl))) (own_w hw 75 rfl) (own_w hw 74 rfl) (own_w hw 52 rfl) (own_w hw 76 rfl) own_lm_279 (rmIN l Z a0 hw [] wcs wd hS b654 T656.heap n0 O661 F659) rfl F658 own_pd_281 (argsL := []) (rest := []) rfl rfl (g := (mkF m 136 #[.val (.int nb), .val (.int ca), .val (.int cb), .val (.int fl), .val (.int ((ca &&& (255 : Int32)).toUInt32.toUInt16.toUInt32.toInt32)), .val (.int ((cb &&& (255 : Int32)).toUInt32.toUInt16.toUInt32.toInt32)), .val .null, .val .null, .val .null, .val (.int (0 : Int32)), .val .null, .val (.ref b654)] [(.ref b654)])) rfl (by rw [hml]; rfl) rfl (hb hby at_136) (W := 0) rfl (by decide) (by decide) (by decide) (by decide)
          obtain ⟨rfl, M660, e660⟩ := hQ660
          have N660 := Fr.app N656 M660
          refine own_st (fun u_ k_ => st660 u_ k_) ?_
          show own_Go p e below _ (T660.setTop (mkF m 139 #[.val (.int nb), .val (.int ca), .val (.int cb), .val (.int fl), .val (.int ((ca &&& (255 : Int32)).toUInt32.toUInt16.toUInt32.toInt32)), .val (.int ((cb &&& (255 : Int32)).toUInt32.toUInt16.toUInt32.toInt32)), .val .null, .val .null, .val .null, .val (.int (0 : Int32)), .val .null, .val (.ref b654)] [(.int (0 : Int32))]))
          refine own_st (fun u_ k_ => XS.iload X660.here hx rfl (hb hby at_139) rfl k_) ?_
          refine own_st (fun u_ k_ => XS.icmpNo X660.here hx rfl (hb hby at_141) rfl (XT.ii_ne_f (by decide)) k_) ?_
          show own_Go p e below _ (T660.setTop (mkF m 144 #[.val (.int nb), .val (.int ca), .val (.int cb), .val (.int fl), .val (.int ((ca &&& (255 : Int32)).toUInt32.toUInt16.toUInt32.toInt32)), .val (.int ((cb &&& (255 : Int32)).toUInt32.toUInt16.toUInt32.toInt32)), .val .null, .val .null, .val .null, .val (.int (0 : Int32)), .val .null, .val (.ref b654)] []))
          refine own_st (fun u_ k_ => XS.iconst X660.here hx rfl (hb hby at_144) k_) ?_
          refine own_st (fun u_ k_ => XS.goto X660.here hx rfl (pc0 := 145) (pc' := 149) rfl (hb hby at_145) (by decide) (by decide) k_) ?_
          show own_Go p e below _ (T660.setTop (mkF m 149 #[.val (.int nb), .val (.int ca), .val (.int cb), .val (.int fl), .val (.int ((ca &&& (255 : Int32)).toUInt32.toUInt16.toUInt32.toInt32)), .val (.int ((cb &&& (255 : Int32)).toUInt32.toUInt16.toUInt32.toInt32)), .val .null, .val .null, .val .null, .val (.int (0 : Int32)), .val .null, .val (.ref b654)] [(.int (1 : Int32))]))
          have K662 : Keep h0 h654 [] := (Keep.refl h0 []).ext E654
          have z664 : h0.size ≤ b654 := Nat.le_trans (Nat.le_refl _) (Nat.le_of_eq g654.symm)
          have K663 : Keep h0 T656.heap [] := K662.trans K656 (allS (Or.inr z664) all0)
          have R665 : CHr Z own_EL s.vm h0 s.vm h654 := R0.trans (CHr.ext E654 R0.1)
          have sf_667 : Safe Z own_EL s.vm h654 b654 := Safe.exa hZ_0.alike A654 own_lm_284 own_lm_285
          have R666 : CHr Z own_EL s.vm h0 s.vm T656.heap := R665.trans (CHr.keep K656 (sfS sf_667 sf0) R665.1)
          exact own_retXH X660 hSi0 (Nat.le_trans (Nat.zero_le _) (Nat.le_trans E654.1 K656.1)) e660 hZ (own_hEL hw) hs0 R666 hx hlk hret rfl (Or.inl ⟨rfl, by simp, _, rfl⟩) (hb hby at_149) (by decide) (by decide) (show Qrm0 Z wcs wd nb ca cb fl h0 n0 (some (.int (1 : Int32))) T660.heap _ from (by rw [e660]; exact ⟨rfl, N660, K663⟩))
        · refine own_st (fun u_ k_ => XS.ifNo X0.here hx rfl (hb hby at_84) rfl (XT.i0_eq_f hc653) k_) ?_
          refine own_st (fun u_ k_ => XS.iconst X0.here hx rfl (hb hby at_87) k_) ?_
          show own_Go p e below _ (s₁.setTop (mkF m 88 #[.val (.int nb), .val (.int ca), .val (.int cb), .val (.int fl), .val (.int ((ca &&& (255 : Int32)).toUInt32.toUInt16.toUInt32.toInt32)), .val (.int ((cb &&& (255 : Int32)).toUInt32.toUInt16.toUInt32.toInt32)), .val .null, .val .null, .val .null, .unset, .unset, .unset] [(.int (1 : Int32))]))
          refine own_st (fun u_ k_ => XS.goto X0.here hx rfl (pc0 := 88) (pc' := 92) rfl (hb hby at_88) (by decide) (by decide) k_) ?_
          refine own_st (fun u_ k_ => XS.istore X0.here hx rfl (hb hby at_92) rfl (l' := #[.val (.int nb), .val (.int ca), .val (.int cb), .val (.int fl), .val (.int ((ca &&& (255 : Int32)).toUInt32.toUInt16.toUInt32.toInt32)), .val (.int ((cb &&& (255 : Int32)).toUInt32.toUInt16.toUInt32.toInt32)), .val .null, .val .null, .val .null, .val (.int (1 : Int32)), .unset, .unset]) rfl k_) ?_
          show own_Go p e below _ (s₁.setTop (mkF m 94 #[.val (.int nb), .val (.int ca), .val (.int cb), .val (.int fl), .val (.int ((ca &&& (255 : Int32)).toUInt32.toUInt16.toUInt32.toInt32)), .val (.int ((cb &&& (255 : Int32)).toUInt32.toUInt16.toUInt32.toInt32)), .val .null, .val .null, .val .null, .val (.int (1 : Int32)), .unset, .unset] []))
          refine own_st (fun u_ k_ => XS.iload X0.here hx rfl (hb hby at_94) rfl k_) ?_
          refine own_st (fun u_ k_ => XS.ifNo X0.here hx rfl (hb hby at_96) rfl (XT.i0_eq_f (by decide)) k_) ?_
          show own_Go p e below _ (s₁.setTop (mkF m 99 #[.val (.int nb), .val (.int ca), .val (.int cb), .val (.int fl), .val (.int ((ca &&& (255 : Int32)).toUInt32.toUInt16.toUInt32.toInt32)), .val (.int ((cb &&& (255 : Int32)).toUInt32.toUInt16.toUInt32.toInt32)), .val .null, .val .null, .val .null, .val (.int (1 : Int32)), .unset, .unset] []))
          refine own_st (fun u_ k_ => XS.iloadN X0.here hx rfl (hb hby at_99) rfl k_) ?_
          refine own_st (fun u_ k_ => XS.bipush X0.here hx rfl (hb hby at_100) k_) ?_
          show own_Go p e below _ (s₁.setTop (mkF m 102 #[.val (.int nb), .val (.int ca), .val (.int cb), .val (.int fl), .val (.int ((ca &&& (255 : Int32)).toUInt32.toUInt16.toUInt32.toInt32)), .val (.int ((cb &&& (255 : Int32)).toUInt32.toUInt16.toUInt32.toInt32)), .val .null, .val .null, .val .null, .val (.int (1 : Int32)), .unset, .unset] [(.int (8 : Int32)), (.int fl)]))
          refine own_st (fun u_ k_ => XS.iushr X0.here hx rfl (hb hby at_102) rfl k_) ?_
          refine own_st (fun u_ k_ => XS.iload X0.here hx rfl (hb hby at_103) rfl k_) ?_
          show own_Go p e below _ (s₁.setTop (mkF m 105 #[.val (.int nb), .val (.int ca), .val (.int cb), .val (.int fl), .val (.int ((ca &&& (255 : Int32)).toUInt32.toUInt16.toUInt32.toInt32)), .val (.int ((cb &&& (255 : Int32)).toUInt32.toUInt16.toUInt32.toInt32)), .val .null, .val .null, .val .null, .val (.int (1 : Int32)), .unset, .unset] [(.int ((ca &&& (255 : Int32)).toUInt32.toUInt16.toUInt32.toInt32)), (.int ((fl.toUInt32 >>> ((8 : Int32) &&& 31).toUInt32).toInt32))]))
          refine own_st (fun u_ k_ => XS.iload X0.here hx rfl (hb hby at_105) rfl k_) ?_
          obtain ⟨T668, v668, L668, X668, Si668, hZ668, hown668, hQ668, hr668, st668⟩ := own_callSH X0 hx hZ hSi0 (Nat.zero_le _) (own_hEL hw) R0.1 own_sf0 (y := own_y_188) hown (own_w hw 0 rfl) (own_w hw 1 rfl) (own_w hw 2 rfl) (own_w hw 3 rfl) own_lm_276 (rmStr l Z a0 hw [] wcs wd hS ((fl.toUInt32 >>> ((8 : Int32) &&& 31).toUInt32).toInt32) ((ca &&& (255 : Int32)).toUInt32.toUInt16.toUInt32.toInt32) ((cb &&& (255 : Int32)).toUInt32.toUInt16.toUInt32.toInt32) h0 n0 O0 (own_c255 _) (own_c255n _) (own_c255n _)) e0 own_pd_277 (argsL := [(.int ((fl.toUInt32 >>> ((8 : Int32) &&& 31).toUInt32).toInt32)), (.int ((ca &&& (255 : Int32)).toUInt32.toUInt16.toUInt32.toInt32)), (.int ((cb &&& (255 : Int32)).toUInt32.toUInt16.toUInt32.toInt32))]) (rest := []) rfl rfl (g := (mkF m 107 #[.val (.int nb), .val (.int ca), .val (.int cb), .val (.int fl), .val (.int ((ca &&& (255 : Int32)).toUInt32.toUInt16.toUInt32.toInt32)), .val (.int ((cb &&& (255 : Int32)).toUInt32.toUInt16.toUInt32.toInt32)), .val .null, .val .null, .val .null, .val (.int (1 : Int32)), .unset, .unset] [(.int ((cb &&& (255 : Int32)).toUInt32.toUInt16.toUInt32.toInt32)), (.int ((ca &&& (255 : Int32)).toUInt32.toUInt16.toUInt32.toInt32)), (.int ((fl.toUInt32 >>> ((8 : Int32) &&& 31).toUInt32).toInt32))])) rfl (by rw [hml]; rfl) rfl (hb hby at_107) (W := 0) rfl (by decide) (by decide) (by decide) (by decide)
          obtain ⟨r_669, rfl, M668, K668, F670⟩ := hQ668
          have N668 := Fr.app N0 M668
          refine own_st (fun u_ k_ => st668 u_ k_) ?_
          show own_Go p e below _ (T668.setTop (mkF m 110 #[.val (.int nb), .val (.int ca), .val (.int cb), .val (.int fl), .val (.int ((ca &&& (255 : Int32)).toUInt32.toUInt16.toUInt32.toInt32)), .val (.int ((cb &&& (255 : Int32)).toUInt32.toUInt16.toUInt32.toInt32)), .val .null, .val .null, .val .null, .val (.int (1 : Int32)), .unset, .unset] [(.ref r_669)]))
          refine own_st (fun u_ k_ => XS.goto X668.here hx rfl (pc0 := 110) (pc' := 114) rfl (hb hby at_110) (by decide) (by decide) k_) ?_
          refine own_st (fun u_ k_ => XS.astore X668.here hx rfl (hb hby at_114) rfl rfl (l' := #[.val (.int nb), .val (.int ca), .val (.int cb), .val (.int fl), .val (.int ((ca &&& (255 : Int32)).toUInt32.toUInt16.toUInt32.toInt32)), .val (.int ((cb &&& (255 : Int32)).toUInt32.toUInt16.toUInt32.toInt32)), .val .null, .val .null, .val .null, .val (.int (1 : Int32)), .val (.ref r_669), .unset]) rfl k_) ?_
          show own_Go p e below _ (T668.setTop (mkF m 116 #[.val (.int nb), .val (.int ca), .val (.int cb), .val (.int fl), .val (.int ((ca &&& (255 : Int32)).toUInt32.toUInt16.toUInt32.toInt32)), .val (.int ((cb &&& (255 : Int32)).toUInt32.toUInt16.toUInt32.toInt32)), .val .null, .val .null, .val .null, .val (.int (1 : Int32)), .val (.ref r_669), .unset] []))
          obtain ⟨T671, h671, X671, e671, E671, A671, D671, U671, st671⟩ := newO X668 hx hZ668 hown668 (own_w hw 50 rfl) (own_w hw 51 rfl) (own_w hw 52 rfl) rfl (g := (mkF m 116 #[.val (.int nb), .val (.int ca), .val (.int cb), .val (.int fl), .val (.int ((ca &&& (255 : Int32)).toUInt32.toUInt16.toUInt32.toInt32)), .val (.int ((cb &&& (255 : Int32)).toUInt32.toUInt16.toUInt32.toInt32)), .val .null, .val .null, .val .null, .val (.int (1 : Int32)), .val (.ref r_669), .unset] [])) rfl (hb hby at_116) (by decide) (by decide)
          obtain ⟨b671, g671⟩ : ∃ z, z = T668.heap.size := ⟨_, rfl⟩
          rw [← g671] at A671 D671 U671 st671
          have F671_number : Fld Z h671 b671 own_c_230 "number" "I" (.int (0 : Int32)) := D671 (Or.inr (own_w hw 63 rfl)) (ty := .int) own_lm_207
          have F671_id : Fld Z h671 b671 own_c_230 "id" "Ljava/lang/String;" .null := D671 (Or.inr (own_w hw 65 rfl)) (ty := (.object "java/lang/String")) own_lm_235
          have F671_data : Fld Z h671 b671 own_c_230 "data" "Ljava/lang/String;" .null := D671 (Or.inr (own_w hw 67 rfl)) (ty := (.object "java/lang/String")) own_lm_235
          have F671_manifestations : Fld Z h671 b671 own_c_230 "manifestations" "Ljava/util/List;" .null := D671 (Or.inr (own_w hw 69 rfl)) (ty := (.object "java/util/List")) own_lm_248
          have F671_refusal : Fld Z h671 b671 own_c_230 "refusal" "Ljava/lang/String;" .null := D671 (Or.inr (own_w hw 71 rfl)) (ty := (.object "java/lang/String")) own_lm_235
          refine own_st (fun u_ k_ => st671 u_ k_) ?_
          show own_Go p e below _ (T671.setTop (mkF m 119 #[.val (.int nb), .val (.int ca), .val (.int cb), .val (.int fl), .val (.int ((ca &&& (255 : Int32)).toUInt32.toUInt16.toUInt32.toInt32)), .val (.int ((cb &&& (255 : Int32)).toUInt32.toUInt16.toUInt32.toInt32)), .val .null, .val .null, .val .null, .val (.int (1 : Int32)), .val (.ref r_669), .unset] [(.ref b671)]))
          refine own_st (fun u_ k_ => XS.dup X671.here hx rfl (hb hby at_119) rfl rfl k_) ?_
          refine own_st (fun u_ k_ => XS.iloadN X671.here hx rfl (hb hby at_120) rfl k_) ?_
          show own_Go p e below _ (T671.setTop (mkF m 121 #[.val (.int nb), .val (.int ca), .val (.int cb), .val (.int fl), .val (.int ((ca &&& (255 : Int32)).toUInt32.toUInt16.toUInt32.toInt32)), .val (.int ((cb &&& (255 : Int32)).toUInt32.toUInt16.toUInt32.toInt32)), .val .null, .val .null, .val .null, .val (.int (1 : Int32)), .val (.ref r_669), .unset] [(.int nb), (.ref b671), (.ref b671)]))
          refine own_st (fun u_ k_ => XS.aload X671.here hx rfl (hb hby at_121) rfl rfl k_) ?_
          refine own_st (fun u_ k_ => XS.aload X671.here hx rfl (hb hby at_123) rfl rfl k_) ?_
          show own_Go p e below _ (T671.setTop (mkF m 125 #[.val (.int nb), .val (.int ca), .val (.int cb), .val (.int fl), .val (.int ((ca &&& (255 : Int32)).toUInt32.toUInt16.toUInt32.toInt32)), .val (.int ((cb &&& (255 : Int32)).toUInt32.toUInt16.toUInt32.toInt32)), .val .null, .val .null, .val .null, .val (.int (1 : Int32)), .val (.ref r_669), .unset] [.null, .null, (.int nb), (.ref b671), (.ref b671)]))
          refine own_st (fun u_ k_ => XS.aload X671.here hx rfl (hb hby at_125) rfl rfl k_) ?_
          refine own_st (fun u_ k_ => XS.aload X671.here hx rfl (hb hby at_127) rfl rfl k_) ?_
          show own_Go p e below _ (T671.setTop (mkF m 129 #[.val (.int nb), .val (.int ca), .val (.int cb), .val (.int fl), .val (.int ((ca &&& (255 : Int32)).toUInt32.toUInt16.toUInt32.toInt32)), .val (.int ((cb &&& (255 : Int32)).toUInt32.toUInt16.toUInt32.toInt32)), .val .null, .val .null, .val .null, .val (.int (1 : Int32)), .val (.ref r_669), .unset] [(.ref r_669), .null, .null, .null, (.int nb), (.ref b671), (.ref b671)]))
          have O673 : Old Z n0 T668.heap := O0.keep K668 all0
          have g672 : n0 ≤ b671 := Nat.le_trans (own_nl O673) (Nat.le_of_eq g671.symm)
          have O675 : Old Z n0 h671 := O673.ext E671
          obtain ⟨T674, v674, L674, X674, hQ674, st674⟩ := own_callN X671 hx hZ668 (y := own_y_266) rfl hown668 (own_w hw 53 rfl) (own_w hw 54 rfl) (own_w hw 52 rfl) (own_w hw 55 rfl) own_lm_279 (rmDL l Z a0 hw [] wcs wd hS b671 nb (.null : Value) (.null : Value) (.null : Value) ((.ref r_669) : Value) h671 n0 O675 A671 g672 rfl rfl rfl rfl F671_number F671_id F671_data F671_manifestations F671_refusal) e671 own_pd_280 (a := b671) (argsL := [(.int nb), .null, .null, .null, (.ref r_669)]) (rest := [(.ref b671)]) rfl rfl (g := (mkF m 129 #[.val (.int nb), .val (.int ca), .val (.int cb), .val (.int fl), .val (.int ((ca &&& (255 : Int32)).toUInt32.toUInt16.toUInt32.toInt32)), .val (.int ((cb &&& (255 : Int32)).toUInt32.toUInt16.toUInt32.toInt32)), .val .null, .val .null, .val .null, .val (.int (1 : Int32)), .val (.ref r_669), .unset] [(.ref r_669), .null, .null, .null, (.int nb), (.ref b671), (.ref b671)])) rfl (by rw [hml]; rfl) rfl (hb hby at_129) (W := 1) rfl (by decide) (by decide) (by decide) (by decide)
          obtain ⟨rfl, M674, K674, F676, F677⟩ := hQ674
          have N674 := Fr.app N668 M674
          refine own_st (fun u_ k_ => st674 u_ k_) ?_
          show own_Go p e below _ (T674.setTop (mkF m 132 #[.val (.int nb), .val (.int ca), .val (.int cb), .val (.int fl), .val (.int ((ca &&& (255 : Int32)).toUInt32.toUInt16.toUInt32.toInt32)), .val (.int ((cb &&& (255 : Int32)).toUInt32.toUInt16.toUInt32.toInt32)), .val .null, .val .null, .val .null, .val (.int (1 : Int32)), .val (.ref r_669), .unset] [(.ref b671)]))
          refine own_st (fun u_ k_ => XS.astore X674.here hx rfl (hb hby at_132) rfl rfl (l' := #[.val (.int nb), .val (.int ca), .val (.int cb), .val (.int fl), .val (.int ((ca &&& (255 : Int32)).toUInt32.toUInt16.toUInt32.toInt32)), .val (.int ((cb &&& (255 : Int32)).toUInt32.toUInt16.toUInt32.toInt32)), .val .null, .val .null, .val .null, .val (.int (1 : Int32)), .val (.ref r_669), .val (.ref b671)]) rfl k_) ?_
          refine own_st (fun u_ k_ => XS.aload X674.here hx rfl (hb hby at_134) rfl rfl k_) ?_
          show own_Go p e below _ (T674.setTop (mkF m 136 #[.val (.int nb), .val (.int ca), .val (.int cb), .val (.int fl), .val (.int ((ca &&& (255 : Int32)).toUInt32.toUInt16.toUInt32.toInt32)), .val (.int ((cb &&& (255 : Int32)).toUInt32.toUInt16.toUInt32.toInt32)), .val .null, .val .null, .val .null, .val (.int (1 : Int32)), .val (.ref r_669), .val (.ref b671)] [(.ref b671)]))
          have O679 : Old Z n0 T674.heap := O675.keep K674 (allS g672 all0)
          obtain ⟨T678, v678, L678, X678, hQ678, st678⟩ := own_callV X674 hx hZ668 (y := own_y_273) (z := own_y_273) hown668 (own_w hw 72 rfl) (own_w hw 73 rfl) (notFace_of_selects (args := #[]) (mvT hZ668 (own_w hw 75 rfl))) (own_w hw 75 rfl) (own_w hw 74 rfl) (own_w hw 52 rfl) (own_w hw 76 rfl) own_lm_279 (rmIR l Z a0 hw [] wcs wd hS b671 r_669 T674.heap n0 O679 F677) rfl F676 own_pd_281 (argsL := []) (rest := []) rfl rfl (g := (mkF m 136 #[.val (.int nb), .val (.int ca), .val (.int cb), .val (.int fl), .val (.int ((ca &&& (255 : Int32)).toUInt32.toUInt16.toUInt32.toInt32)), .val (.int ((cb &&& (255 : Int32)).toUInt32.toUInt16.toUInt32.toInt32)), .val .null, .val .null, .val .null, .val (.int (1 : Int32)), .val (.ref r_669), .val (.ref b671)] [(.ref b671)])) rfl (by rw [hml]; rfl) rfl (hb hby at_136) (W := 0) rfl (by decide) (by decide) (by decide) (by decide)
          obtain ⟨rfl, M678, e678⟩ := hQ678
          have N678 := Fr.app N674 M678
          refine own_st (fun u_ k_ => st678 u_ k_) ?_
          show own_Go p e below _ (T678.setTop (mkF m 139 #[.val (.int nb), .val (.int ca), .val (.int cb), .val (.int fl), .val (.int ((ca &&& (255 : Int32)).toUInt32.toUInt16.toUInt32.toInt32)), .val (.int ((cb &&& (255 : Int32)).toUInt32.toUInt16.toUInt32.toInt32)), .val .null, .val .null, .val .null, .val (.int (1 : Int32)), .val (.ref r_669), .val (.ref b671)] [(.int (1 : Int32))]))
          refine own_st (fun u_ k_ => XS.iload X678.here hx rfl (hb hby at_139) rfl k_) ?_
          refine own_st (fun u_ k_ => XS.icmpNo X678.here hx rfl (hb hby at_141) rfl (XT.ii_ne_f (by decide)) k_) ?_
          show own_Go p e below _ (T678.setTop (mkF m 144 #[.val (.int nb), .val (.int ca), .val (.int cb), .val (.int fl), .val (.int ((ca &&& (255 : Int32)).toUInt32.toUInt16.toUInt32.toInt32)), .val (.int ((cb &&& (255 : Int32)).toUInt32.toUInt16.toUInt32.toInt32)), .val .null, .val .null, .val .null, .val (.int (1 : Int32)), .val (.ref r_669), .val (.ref b671)] []))
          refine own_st (fun u_ k_ => XS.iconst X678.here hx rfl (hb hby at_144) k_) ?_
          refine own_st (fun u_ k_ => XS.goto X678.here hx rfl (pc0 := 145) (pc' := 149) rfl (hb hby at_145) (by decide) (by decide) k_) ?_
          show own_Go p e below _ (T678.setTop (mkF m 149 #[.val (.int nb), .val (.int ca), .val (.int cb), .val (.int fl), .val (.int ((ca &&& (255 : Int32)).toUInt32.toUInt16.toUInt32.toInt32)), .val (.int ((cb &&& (255 : Int32)).toUInt32.toUInt16.toUInt32.toInt32)), .val .null, .val .null, .val .null, .val (.int (1 : Int32)), .val (.ref r_669), .val (.ref b671)] [(.int (1 : Int32))]))
          have K680 : Keep h0 T668.heap [] := (Keep.refl h0 []).trans K668 all0
          have K681 : Keep h0 h671 [] := K680.ext E671
          have z683 : h0.size ≤ b671 := Nat.le_trans K668.1 (Nat.le_of_eq g671.symm)
          have K682 : Keep h0 T674.heap [] := K681.trans K674 (allS (Or.inr z683) all0)
          have R684 : CHr Z own_EL s.vm h0 T668.vm T668.heap := R0.trans hr668
          have R685 : CHr Z own_EL s.vm h0 T668.vm h671 := R684.trans (CHr.ext E671 R684.1)
          have sf_687 : Safe Z own_EL T668.vm h671 b671 := Safe.exa hZ668.alike A671 own_lm_284 own_lm_285
          have R686 : CHr Z own_EL s.vm h0 T668.vm T674.heap := R685.trans (CHr.keep K674 (sfS sf_687 sf0) R685.1)
          exact own_retXH X678 Si668 (Nat.le_trans (Nat.le_refl _) (Nat.le_trans E671.1 K674.1)) e678 hZ668 (own_hEL hw) hs0 R686 hx hlk hret rfl (Or.inl ⟨rfl, by simp, _, rfl⟩) (hb hby at_149) (by decide) (by decide) (show Qrm0 Z wcs wd nb ca cb fl h0 n0 (some (.int (1 : Int32))) T678.heap _ from (by rw [e678]; exact ⟨rfl, N678, K682⟩))
set_option maxRecDepth 65536 in
set_option maxHeartbeats 40000000 in
theorem comes_1 {Post : Tables → Env → Array Value → State → Outcome → State → Prop} (hpost : ∀ tb e args s v u, (limb_1_1.after args s (.returned v) u = true ∧ limb_1_2.after args s (.returned v) u = true ∧ True) → ReturnedEndW s (.returned v) u (Jvm.fieldLocs frame_1_writes args s ++ Jvm.arrayLocs frame_1_arrays args s ++ Jvm.staticLocs frame_1_statics s) 32 1216 → Post tb e args s (.returned v) u) :
    ArmFor flags0 classFile x code maxLocals ret World_1 tables_1 room_1 Calls_1 rest_1 Pre_1 Post := by
  intro l hfl _ _ p e ha hc hk s m args below hf hA hF happ hP
  obtain ⟨hcalls, hrest, hpre⟩ := hP
  obtain ⟨-, -, -, hnamed, -, -, -, hat⟩ := (Spec.applies_iff hf).mp happ
  obtain ⟨hg, hn⟩ := and_e (Cond.before_iff.mp (show (Jvm.Cond.and given_1 narrow_1).before args s = true from hpre))
  obtain ⟨hcount, hr0⟩ := and_e hg
  obtain ⟨ha0, hr1⟩ := and_e hr0
  obtain ⟨ha1, hr2⟩ := and_e hr1
  obtain ⟨ha2, hr3⟩ := and_e hr2
  have ha3 := hr3
  obtain ⟨w_0, w_1, w_2, w_3, rfl⟩ : ∃ w_0 w_1 w_2 w_3 : Value, args = #[w_0, w_1, w_2, w_3] := by
    have hs : args.size = 4 := by simpa [Cond.value, given_1] using hcount
    obtain ⟨L⟩ := args
    match L, hs with
    | [w_0, w_1, w_2, w_3], _ => exact ⟨w_0, w_1, w_2, w_3, rfl⟩
  have hw := fun d (hd : d ∈ tables_1) => atoms_spec (ws := Jvm.Cond.code x code maxLocals ret :: tables_1) hat d (List.mem_cons_of_mem _ hd)
  have hfit : Fit s := fun {y c} hc i hi => by
    obtain ⟨ha, rfl⟩ := Array.getElem?_eq_some_iff.mp hc
    have q := List.all_eq_true.mp ((Array.all_eq_true_iff_forall_mem.mp hF) _ (Array.getElem_mem ha)) i (List.mem_range.mpr hi)
    simpa [Array.getElem?_eq_getElem hi] using q
  obtain ⟨i_0, ei_0⟩ := is_v ha0
  obtain rfl : w_0 = (.int i_0) := Option.some.inj ei_0
  obtain ⟨i_1, ei_1⟩ := is_v ha1
  obtain rfl : w_1 = (.int i_1) := Option.some.inj ei_1
  obtain ⟨i_2, ei_2⟩ := is_v ha2
  obtain rfl : w_2 = (.int i_2) := Option.some.inj ei_2
  obtain ⟨i_3, ei_3⟩ := is_v ha3
  obtain rfl : w_3 = (.int i_3) := Option.some.inj ei_3
  obtain ⟨hsets, hown0⟩ := atoms_of _ (rest_1_c_eq ▸ (show rest_1_c.before _ s = true from hrest))
  obtain ⟨wcs, ecs⟩ := is_v (Cond.before_iff.mp (hsets _ (List.mem_of_getElem? (i := 10) rfl)))
  have hcs := own_stne ecs (Cond.before_iff.mp (hsets _ (List.mem_of_getElem? (i := 11) rfl)))
  obtain ⟨wd, ewd⟩ := arr_v (Cond.before_iff.mp (hsets _ (List.mem_of_getElem? (i := 6) rfl)))
  have hCH : CHv s own_EL s.vm s.heap := CHv.start (own_hEL hw) (fun p hp => hcalls.1 p hp) (hsets _ (List.mem_of_getElem? (i := 11) rfl)) (own_w hw 19 rfl) (own_w hw 5 rfl)
  have hS : own_S s wcs wd := ⟨(Sta.start ecs (Or.inl (hsets _ (List.mem_of_getElem? (i := 9) rfl)))), hcs, (Sta.start ewd (Or.inr ⟨(own_w hw 28 rfl), (hsets _ (List.mem_of_getElem? (i := 2) rfl))⟩))⟩
  obtain ⟨n, o, h1, h2, h3, _, L, rfl, ⟨rfl, N, _⟩, -, hq⟩ := rm0 l s _ hw tables_1 wcs wd hS i_0 i_1 i_2 i_3 s.heap s.heap.size (Old.start s) p e ha hc hk s m _ below hf ((Spec.applies_iff_loose hf).mp happ).1 ⟨rfl, State.Warmed39.refl s, rfl, hCH, sf0⟩ trivial
  refine ⟨n, _, h1, h2, h3, hpost _ _ _ _ _ _ ⟨Cond.after_iff.mpr rfl, Cond.after_iff.mpr (eq_i res_at (Term.int_eval (1)) rfl), trivial⟩ ⟨hq.1, hq.2.1, hq.2.2.1, (hq.2.2.2.sift fun y hy => Or.inr (N y hy)).mono (by decide) (by decide)⟩⟩
theorem main_1_1 : Claimed_1_1 := comes_1 fun _ _ _ _ _ _ h hF => ⟨h.1, hF⟩
theorem main_1_2 : Claimed_1_2 := comes_1 fun _ _ _ _ _ _ h hF => ⟨h.2.1, hF⟩
end Jvm.Pilot.@@N@@
namespace Jvm.Pilot.@@N@@
open Jvm Jvm.ClassFile Sem Op Lib Jvm.Free Jvm.Stand Jvm.Pilot.@@N@@.Jvm.D
/-! MADE BY PROGRAM (witnessworld.py) out of the Statement's table words and the real class files: 30 classes; the members and pool entries that the words name. The judged class is class 1, her method 1. -/
namespace start1
open Jvm.ClassFile
def u (s : String) : CpInfo := .utf8 (stringToUtf16 s)
/-- a pool by its gaps: so many unusable entries, then the entry; so many at the end -/
def gap : Nat → List CpInfo → List CpInfo
  | 0, r => r
  | n + 1, r => .unusable :: gap n r
def poolList (es : List (Nat × CpInfo)) (last : Nat) : List CpInfo := es.foldr (fun e r => gap e.1 (e.2 :: r)) (gap last [])
def pool (es : List (Nat × CpInfo)) (last : Nat) : Array CpInfo := ⟨poolList es last⟩
def fileOf (pool : Array CpInfo) (this : Nat) (attrs : Array Attribute := #[]) (ms : Array MethodInfo := #[]) (fl : Nat := 33) (sup : Nat := 0) (ifs : Array Nat := #[]) (fds : Array FieldInfo := #[]) : ClassFile where
  minorVersion := 0
  majorVersion := 65
  constantPool := pool
  accessFlags := fl
  thisClass := this
  superClass := sup
  interfaces := ifs
  fields := fds
  methods := ms
  attributes := attrs
def plain (name : String) (sup : Option ClassId) : Class where
  name := name
  kind := .ordinary
  loader := none
  accessFlags := 33
  super := sup
  interfaces := #[]
  cf := none
  fields := #[]
  methods := #[]
  instanceTypes := #[]
  staticTypes := #[]
  resolved := #[]
  callSites := []
  init := .initialized
  statics := none
  mirror := none

def pool0 : Array CpInfo := pool [(5, u "<init>"), (0, u "()V"), (1, .class_ 10), (1, u "java/lang/Object")] 113

def k0c0 : Code := { maxStack := 0, maxLocals := 1, code := object_method_1_code, exceptionTable := #[], attributes := #[] }
def k0m0 : Method := { name := "<init>", desc := "()V", sig := { parameters := [], returnType := none }, accessFlags := 1, code := some k0c0 }
/-- java/lang/Object -/
def k0 : Class := { plain "java/lang/Object" none with
  accessFlags := 33
  interfaces := #[]
  cf := some (fileOf pool0 8 #[] #[{ accessFlags := 1, nameIndex := 5, descriptorIndex := 6, attributes := #[] }] 33 0 #[] #[])
  fields := #[]
  methods := #[k0m0]
  instanceTypes := #[]
  staticTypes := #[]
  resolved := Array.replicate 124 none
  statics := none }

def pool1 : Array CpInfo := pool [(2, .class_ 4), (0, .nameAndType 5 6), (0, u "java/lang/Object"), (0, u "<init>"), (0, u "()V"), (0, .methodref 8 9), (0, .class_ 10), (0, .nameAndType 11 12), (0, u "com/example/spulenwerk/spulenwerk/delivery/DeliveredLineIsRefusedPinLaw"), (0, u "str"), (0, u "(ICC)Ljava/lang/String;"), (0, .class_ 14), (0, u "java/util/ArrayList"), (0, .methodref 13 3), (0, .class_ 17), (0, u "com/example/spulenwerk/spulenwerk/delivery/DeliveredLine"), (0, .methodref 16 19), (0, .nameAndType 5 20), (0, u "(ILjava/lang/String;Ljava/lang/String;Ljava/util/List;Ljava/lang/String;)V"), (0, .methodref 16 22), (0, .nameAndType 23 24), (0, u "isRefused"), (0, u "()Z"), (0, .class_ 26), (0, u "java/lang/String"), (0, .methodref 25 28), (0, .nameAndType 5 29), (0, u "([C)V"), (0, .methodref 25 31), (0, .nameAndType 32 33), (0, u "valueOf"), (0, u "(C)Ljava/lang/String;"), (2, u "law"), (0, u "(IIII)Z")] 5

def k1m0 : Method := { name := "<init>", desc := "()V", sig := { parameters := [], returnType := none }, accessFlags := 1, code := none }
def k1c1 : Code := { maxStack := 7, maxLocals := 12, code := code, exceptionTable := #[], attributes := #[] }
def k1m1 : Method := { name := "law", desc := "(IIII)Z", sig := { parameters := [.int, .int, .int, .int], returnType := some .boolean }, accessFlags := 9, code := some k1c1 }
def k1c2 : Code := { maxStack := 3, maxLocals := 5, code := method_3_code, exceptionTable := #[], attributes := #[] }
def k1m2 : Method := { name := "str", desc := "(ICC)Ljava/lang/String;", sig := { parameters := [.int, .char, .char], returnType := some (.object "java/lang/String") }, accessFlags := 10, code := some k1c2 }
/-- com/example/spulenwerk/spulenwerk/delivery/DeliveredLineIsRefusedPinLaw -/
def k1 : Class := { plain "com/example/spulenwerk/spulenwerk/delivery/DeliveredLineIsRefusedPinLaw" (some 0) with
  accessFlags := 49
  interfaces := #[]
  cf := some (fileOf pool1 8 #[] #[{ accessFlags := 1, nameIndex := 5, descriptorIndex := 6, attributes := #[] }, { accessFlags := 9, nameIndex := 36, descriptorIndex := 37, attributes := #[] }, { accessFlags := 10, nameIndex := 11, descriptorIndex := 12, attributes := #[] }] 49 2 #[] #[])
  fields := #[]
  methods := #[k1m0, k1m1, k1m2]
  instanceTypes := #[]
  staticTypes := #[]
  resolved := Array.replicate 43 none
  statics := none }

def pool2 : Array CpInfo := pool [(1, .class_ 2), (0, u "java/io/Serializable"), (0, .class_ 4), (0, u "java/lang/Object")] 2

/-- java/io/Serializable -/
def k2 : Class := { plain "java/io/Serializable" (some 0) with
  accessFlags := 1537
  interfaces := #[]
  cf := some (fileOf pool2 1 #[] #[] 1537 3 #[] #[])
  fields := #[]
  methods := #[]
  instanceTypes := #[]
  staticTypes := #[]
  resolved := Array.replicate 7 none
  statics := none }

def pool3 : Array CpInfo := pool [(1, .class_ 2), (0, u "java/lang/Comparable"), (0, .class_ 4), (0, u "java/lang/Object")] 7

/-- java/lang/Comparable -/
def k3 : Class := { plain "java/lang/Comparable" (some 0) with
  accessFlags := 1537
  interfaces := #[]
  cf := some (fileOf pool3 1 #[] #[] 1537 3 #[] #[])
  fields := #[]
  methods := #[]
  instanceTypes := #[]
  staticTypes := #[]
  resolved := Array.replicate 12 none
  statics := none }

def pool4 : Array CpInfo := pool [(2, .class_ 4), (1, u "java/lang/CharSequence"), (42, .class_ 48), (0, u "java/lang/CharSequence$1CodePointIterator"), (10, .class_ 60), (0, u "java/lang/CharSequence$1CharIterator"), (5, .class_ 67), (0, u "java/lang/Object")] 63

/-- java/lang/CharSequence -/
def k4 : Class := { plain "java/lang/CharSequence" (some 0) with
  accessFlags := 1537
  interfaces := #[]
  cf := some (fileOf pool4 2 #[.nestMembers #[47, 59]] #[] 1537 66 #[] #[])
  fields := #[]
  methods := #[]
  instanceTypes := #[]
  staticTypes := #[]
  resolved := Array.replicate 131 none
  statics := none }

def pool5 : Array CpInfo := pool [(1, .class_ 2), (0, u "java/lang/constant/Constable"), (0, .class_ 4), (0, u "java/lang/Object")] 6

/-- java/lang/constant/Constable -/
def k5 : Class := { plain "java/lang/constant/Constable" (some 0) with
  accessFlags := 1537
  interfaces := #[]
  cf := some (fileOf pool5 1 #[] #[] 1537 3 #[] #[])
  fields := #[]
  methods := #[]
  instanceTypes := #[]
  staticTypes := #[]
  resolved := Array.replicate 11 none
  statics := none }

def pool6 : Array CpInfo := pool [(1, .class_ 2), (0, u "java/lang/constant/ConstantDesc"), (0, .class_ 4), (0, u "java/lang/Object")] 32

/-- java/lang/constant/ConstantDesc -/
def k6 : Class := { plain "java/lang/constant/ConstantDesc" (some 0) with
  accessFlags := 1537
  interfaces := #[]
  cf := some (fileOf pool6 1 #[] #[] 1537 3 #[] #[])
  fields := #[]
  methods := #[]
  instanceTypes := #[]
  staticTypes := #[]
  resolved := Array.replicate 37 none
  statics := none }

def pool7 : Array CpInfo := pool [(1, .methodref 2 3), (0, .class_ 4), (0, .nameAndType 5 6), (0, u "java/lang/Object"), (0, u "<init>"), (0, u "()V"), (0, .string 8), (0, u ""), (0, .fieldref 10 11), (0, .class_ 12), (0, .nameAndType 13 14), (0, u "java/lang/String"), (0, u "value"), (0, u "[B"), (0, .fieldref 10 16), (0, .nameAndType 17 18), (0, u "coder"), (0, u "B"), (2, u "hash"), (0, u "I"), (2, u "hashIsZero"), (0, u "Z"), (0, .methodref 10 28), (0, .nameAndType 5 29), (0, u "([CIILjava/lang/Void;)V"), (8, .fieldref 10 39), (0, .nameAndType 40 26), (0, u "COMPACT_STRINGS"), (1, .class_ 44), (1, u "java/lang/StringUTF16"), (0, u "compress"), (1, .methodref 42 48), (0, .nameAndType 49 50), (0, u "coderFromArrayLen"), (0, u "([BI)B"), (2, u "toBytes"), (53, .class_ 109), (1, u "java/lang/StringLatin1"), (67, .methodref 42 178), (0, .nameAndType 45 179), (0, u "([CII)[B"), (29, .methodref 10 210), (0, .nameAndType 5 211), (0, u "([BB)V"), (157, u "(C)Z"), (205, .class_ 576), (0, u "java/lang/CharSequence"), (22, u "CASE_INSENSITIVE_ORDER"), (0, u "Ljava/util/Comparator;"), (181, u "valueOf"), (0, u "(C)Ljava/lang/String;"), (226, u "([C)V"), (4, .methodref 107 1016), (0, .nameAndType 1017 369), (0, u "canEncode"), (0, .methodref 107 1019), (0, .nameAndType 53 1020), (0, u "(C)[B"), (80, u "serialPersistentFields"), (0, u "[Ljava/io/ObjectStreamField;"), (0, .class_ 1104), (0, u "java/lang/String$CaseInsensitiveComparator"), (1, .class_ 1107), (0, u "java/io/Serializable"), (0, .class_ 1109), (0, u "java/lang/Comparable"), (0, .class_ 1111), (0, u "java/lang/constant/Constable"), (0, .class_ 1113), (0, u "java/lang/constant/ConstantDesc"), (2, u "serialVersionUID"), (0, u "J"), (3, u "REPL"), (0, u "C"), (2, u "LATIN1"), (1, u "UTF16")] 323

def k7m0 : Method := { name := "<init>", desc := "()V", sig := { parameters := [], returnType := none }, accessFlags := 1, code := none }
def k7c1 : Code := { maxStack := 5, maxLocals := 2, code := jdk_42_method_3_code, exceptionTable := #[], attributes := #[] }
def k7m1 : Method := { name := "<init>", desc := "([C)V", sig := { parameters := [(.array .char)], returnType := none }, accessFlags := 1, code := some k7c1 }
def k7c2 : Code := { maxStack := 4, maxLocals := 1, code := jdk_42_method_139_code, exceptionTable := #[], attributes := #[] }
def k7m2 : Method := { name := "valueOf", desc := "(C)Ljava/lang/String;", sig := { parameters := [.char], returnType := some (.object "java/lang/String") }, accessFlags := 9, code := some k7c2 }
def k7c3 : Code := { maxStack := 4, maxLocals := 6, code := jdk_42_method_149_code, exceptionTable := #[], attributes := #[] }
def k7m3 : Method := { name := "<init>", desc := "([CIILjava/lang/Void;)V", sig := { parameters := [(.array .char), .int, .int, (.object "java/lang/Void")], returnType := none }, accessFlags := 2, code := some k7c3 }
def k7c4 : Code := { maxStack := 2, maxLocals := 3, code := jdk_42_method_151_code, exceptionTable := #[], attributes := #[] }
def k7m4 : Method := { name := "<init>", desc := "([BB)V", sig := { parameters := [(.array .byte), .byte], returnType := none }, accessFlags := 0, code := some k7c4 }
/-- java/lang/String -/
def k7 : Class := { plain "java/lang/String" (some 0) with
  accessFlags := 49
  interfaces := #[2, 3, 4, 5, 6]
  cf := some (fileOf pool7 10 #[.nestMembers #[1103]] #[{ accessFlags := 1, nameIndex := 5, descriptorIndex := 6, attributes := #[] }, { accessFlags := 1, nameIndex := 5, descriptorIndex := 1010, attributes := #[] }, { accessFlags := 9, nameIndex := 782, descriptorIndex := 783, attributes := #[] }, { accessFlags := 2, nameIndex := 5, descriptorIndex := 29, attributes := #[] }, { accessFlags := 0, nameIndex := 5, descriptorIndex := 211, attributes := #[] }] 49 2 #[1106, 1108, 575, 1110, 1112] #[{ accessFlags := 18, nameIndex := 13, descriptorIndex := 14, attributes := #[] }, { accessFlags := 18, nameIndex := 17, descriptorIndex := 18, attributes := #[] }, { accessFlags := 2, nameIndex := 21, descriptorIndex := 22, attributes := #[] }, { accessFlags := 2, nameIndex := 25, descriptorIndex := 26, attributes := #[] }, { accessFlags := 26, nameIndex := 1116, descriptorIndex := 1117, attributes := #[] }, { accessFlags := 24, nameIndex := 40, descriptorIndex := 26, attributes := #[] }, { accessFlags := 26, nameIndex := 1101, descriptorIndex := 1102, attributes := #[] }, { accessFlags := 26, nameIndex := 1121, descriptorIndex := 1122, attributes := #[] }, { accessFlags := 25, nameIndex := 599, descriptorIndex := 600, attributes := #[] }, { accessFlags := 24, nameIndex := 1125, descriptorIndex := 18, attributes := #[] }, { accessFlags := 24, nameIndex := 1127, descriptorIndex := 18, attributes := #[] }])
  fields := #[{ name := "value", type := (.array .byte), accessFlags := 18, slot := 0, constantValue := 0 }, { name := "coder", type := .byte, accessFlags := 18, slot := 1, constantValue := 0 }, { name := "hash", type := .int, accessFlags := 2, slot := 2, constantValue := 0 }, { name := "hashIsZero", type := .boolean, accessFlags := 2, slot := 3, constantValue := 0 }, { name := "serialVersionUID", type := .long, accessFlags := 26, slot := 0, constantValue := 0 }, { name := "COMPACT_STRINGS", type := .boolean, accessFlags := 24, slot := 1, constantValue := 0 }, { name := "serialPersistentFields", type := (.array (.object "java/io/ObjectStreamField")), accessFlags := 26, slot := 2, constantValue := 0 }, { name := "REPL", type := .char, accessFlags := 26, slot := 3, constantValue := 0 }, { name := "CASE_INSENSITIVE_ORDER", type := (.object "java/util/Comparator"), accessFlags := 25, slot := 4, constantValue := 0 }, { name := "LATIN1", type := .byte, accessFlags := 24, slot := 5, constantValue := 0 }, { name := "UTF16", type := .byte, accessFlags := 24, slot := 6, constantValue := 0 }]
  methods := #[k7m0, k7m1, k7m2, k7m3, k7m4]
  instanceTypes := #[(.array .byte), .byte, .int, .boolean]
  staticTypes := #[.long, .boolean, (.array (.object "java/io/ObjectStreamField")), .char, (.object "java/util/Comparator"), .byte, .byte]
  resolved := Array.replicate 1451 none
  statics := some 0 }

def pool8 : Array CpInfo := pool [(8, .class_ 10), (1, u "java/lang/Iterable"), (24, .class_ 36), (0, u "java/lang/Object")] 25

/-- java/lang/Iterable -/
def k8 : Class := { plain "java/lang/Iterable" (some 0) with
  accessFlags := 1537
  interfaces := #[]
  cf := some (fileOf pool8 8 #[] #[] 1537 35 #[] #[])
  fields := #[]
  methods := #[]
  instanceTypes := #[]
  staticTypes := #[]
  resolved := Array.replicate 62 none
  statics := none }

def pool9 : Array CpInfo := pool [(10, .class_ 12), (1, u "java/util/Collection"), (47, .class_ 61), (0, u "java/lang/Object"), (0, .class_ 63), (0, u "java/lang/Iterable")] 51

/-- java/util/Collection -/
def k9 : Class := { plain "java/util/Collection" (some 0) with
  accessFlags := 1537
  interfaces := #[8]
  cf := some (fileOf pool9 10 #[] #[] 1537 60 #[62] #[])
  fields := #[]
  methods := #[]
  instanceTypes := #[]
  staticTypes := #[]
  resolved := Array.replicate 115 none
  statics := none }

def pool10 : Array CpInfo := pool [(1, .methodref 2 3), (0, .class_ 4), (0, .nameAndType 5 6), (0, u "java/lang/Object"), (0, u "<init>"), (0, u "()V"), (1, .class_ 10), (1, u "java/util/AbstractCollection"), (66, .class_ 78), (0, u "java/util/Collection")] 81

def k10c0 : Code := { maxStack := 1, maxLocals := 1, code := jdk_22_method_1_code, exceptionTable := #[], attributes := #[] }
def k10m0 : Method := { name := "<init>", desc := "()V", sig := { parameters := [], returnType := none }, accessFlags := 4, code := some k10c0 }
/-- java/util/AbstractCollection -/
def k10 : Class := { plain "java/util/AbstractCollection" (some 0) with
  accessFlags := 1057
  interfaces := #[9]
  cf := some (fileOf pool10 8 #[] #[{ accessFlags := 4, nameIndex := 5, descriptorIndex := 6, attributes := #[] }] 1057 2 #[77] #[])
  fields := #[]
  methods := #[k10m0]
  instanceTypes := #[]
  staticTypes := #[]
  resolved := Array.replicate 160 none
  statics := none }

def pool11 : Array CpInfo := pool [(8, .class_ 10), (1, u "java/util/SequencedCollection"), (15, .class_ 27), (0, u "java/lang/Object"), (0, .class_ 29), (0, u "java/util/Collection")] 27

/-- java/util/SequencedCollection -/
def k11 : Class := { plain "java/util/SequencedCollection" (some 0) with
  accessFlags := 1537
  interfaces := #[9]
  cf := some (fileOf pool11 8 #[] #[] 1537 26 #[28] #[])
  fields := #[]
  methods := #[]
  instanceTypes := #[]
  staticTypes := #[]
  resolved := Array.replicate 57 none
  statics := none }

def pool12 : Array CpInfo := pool [(8, .class_ 10), (1, u "java/util/List"), (92, .class_ 104), (0, u "java/lang/Object"), (15, .class_ 121), (0, u "java/util/SequencedCollection")] 129

/-- java/util/List -/
def k12 : Class := { plain "java/util/List" (some 0) with
  accessFlags := 1537
  interfaces := #[11]
  cf := some (fileOf pool12 8 #[] #[] 1537 103 #[120] #[])
  fields := #[]
  methods := #[]
  instanceTypes := #[]
  staticTypes := #[]
  resolved := Array.replicate 251 none
  statics := none }

def pool13 : Array CpInfo := pool [(1, .methodref 2 3), (0, .class_ 4), (0, .nameAndType 5 6), (0, u "java/util/AbstractCollection"), (0, u "<init>"), (0, u "()V"), (0, .fieldref 8 9), (0, .class_ 10), (0, .nameAndType 11 12), (0, u "java/util/AbstractList"), (0, u "modCount"), (0, u "I"), (64, .class_ 78), (0, u "java/util/AbstractList$Itr"), (3, .class_ 83), (0, u "java/util/AbstractList$ListItr"), (9, .class_ 94), (0, u "java/util/AbstractList$RandomAccessSubList"), (3, .class_ 99), (0, u "java/util/AbstractList$SubList"), (33, .class_ 134), (0, u "java/util/List"), (73, .class_ 209), (0, u "java/util/AbstractList$SubList$1"), (0, .class_ 211), (0, u "java/util/AbstractList$RandomAccessSpliterator")] 6

def k13c0 : Code := { maxStack := 2, maxLocals := 1, code := jdk_39_method_1_code, exceptionTable := #[], attributes := #[] }
def k13m0 : Method := { name := "<init>", desc := "()V", sig := { parameters := [], returnType := none }, accessFlags := 4, code := some k13c0 }
/-- java/util/AbstractList -/
def k13 : Class := { plain "java/util/AbstractList" (some 10) with
  accessFlags := 1057
  interfaces := #[12]
  cf := some (fileOf pool13 8 #[.nestMembers #[93, 98, 208, 210, 82, 77]] #[{ accessFlags := 4, nameIndex := 5, descriptorIndex := 6, attributes := #[] }] 1057 2 #[133] #[{ accessFlags := 132, nameIndex := 11, descriptorIndex := 12, attributes := #[] }])
  fields := #[{ name := "modCount", type := .int, accessFlags := 132, slot := 0, constantValue := 0 }]
  methods := #[k13m0]
  instanceTypes := #[.int]
  staticTypes := #[]
  resolved := Array.replicate 218 none
  statics := none }

def pool14 : Array CpInfo := pool [(1, .class_ 2), (0, u "java/util/RandomAccess"), (0, .class_ 4), (0, u "java/lang/Object")] 2

/-- java/util/RandomAccess -/
def k14 : Class := { plain "java/util/RandomAccess" (some 0) with
  accessFlags := 1537
  interfaces := #[]
  cf := some (fileOf pool14 1 #[] #[] 1537 3 #[] #[])
  fields := #[]
  methods := #[]
  instanceTypes := #[]
  staticTypes := #[]
  resolved := Array.replicate 7 none
  statics := none }

def pool15 : Array CpInfo := pool [(1, .class_ 2), (0, u "java/lang/Cloneable"), (0, .class_ 4), (0, u "java/lang/Object")] 2

/-- java/lang/Cloneable -/
def k15 : Class := { plain "java/lang/Cloneable" (some 0) with
  accessFlags := 1537
  interfaces := #[]
  cf := some (fileOf pool15 1 #[] #[] 1537 3 #[] #[])
  fields := #[]
  methods := #[]
  instanceTypes := #[]
  staticTypes := #[]
  resolved := Array.replicate 7 none
  statics := none }

def pool16 : Array CpInfo := pool [(1, .methodref 2 3), (0, .class_ 4), (0, .nameAndType 5 6), (0, u "java/util/AbstractList"), (0, u "<init>"), (0, u "()V"), (2, .fieldref 10 11), (0, .class_ 12), (0, .nameAndType 13 14), (0, u "java/util/ArrayList"), (0, u "elementData"), (0, u "[Ljava/lang/Object;"), (2, u "EMPTY_ELEMENTDATA"), (21, .fieldref 10 40), (0, .nameAndType 41 14), (0, u "DEFAULTCAPACITY_EMPTY_ELEMENTDATA"), (8, u "size"), (0, u "I"), (96, .class_ 149), (0, u "java/util/List"), (112, .class_ 263), (0, u "java/util/ArrayList$ListItr"), (3, .class_ 268), (0, u "java/util/ArrayList$Itr"), (7, .class_ 277), (0, u "java/util/ArrayList$SubList"), (12, .class_ 291), (0, u "java/util/ArrayList$ArrayListSpliterator"), (37, .class_ 330), (0, u "java/util/RandomAccess"), (0, .class_ 332), (0, u "java/lang/Cloneable"), (0, .class_ 334), (0, u "java/io/Serializable"), (0, u "serialVersionUID"), (0, u "J"), (3, u "DEFAULT_CAPACITY"), (159, .class_ 501), (0, u "java/util/ArrayList$SubList$2"), (0, .class_ 503), (0, u "java/util/ArrayList$SubList$1")] 5

def k16c0 : Code := { maxStack := 2, maxLocals := 1, code := jdk_38_method_2_code, exceptionTable := #[], attributes := #[] }
def k16m0 : Method := { name := "<init>", desc := "()V", sig := { parameters := [], returnType := none }, accessFlags := 1, code := some k16c0 }
/-- java/util/ArrayList -/
def k16 : Class := { plain "java/util/ArrayList" (some 13) with
  accessFlags := 33
  interfaces := #[12, 14, 15, 2]
  cf := some (fileOf pool16 10 #[.nestMembers #[290, 276, 500, 502, 262, 267]] #[{ accessFlags := 1, nameIndex := 5, descriptorIndex := 6, attributes := #[] }] 33 2 #[148, 329, 331, 333] #[{ accessFlags := 26, nameIndex := 335, descriptorIndex := 336, attributes := #[] }, { accessFlags := 26, nameIndex := 340, descriptorIndex := 51, attributes := #[] }, { accessFlags := 26, nameIndex := 17, descriptorIndex := 14, attributes := #[] }, { accessFlags := 26, nameIndex := 41, descriptorIndex := 14, attributes := #[] }, { accessFlags := 128, nameIndex := 13, descriptorIndex := 14, attributes := #[] }, { accessFlags := 2, nameIndex := 50, descriptorIndex := 51, attributes := #[] }])
  fields := #[{ name := "serialVersionUID", type := .long, accessFlags := 26, slot := 0, constantValue := 0 }, { name := "DEFAULT_CAPACITY", type := .int, accessFlags := 26, slot := 1, constantValue := 0 }, { name := "EMPTY_ELEMENTDATA", type := (.array (.object "java/lang/Object")), accessFlags := 26, slot := 2, constantValue := 0 }, { name := "DEFAULTCAPACITY_EMPTY_ELEMENTDATA", type := (.array (.object "java/lang/Object")), accessFlags := 26, slot := 3, constantValue := 0 }, { name := "elementData", type := (.array (.object "java/lang/Object")), accessFlags := 128, slot := 1, constantValue := 0 }, { name := "size", type := .int, accessFlags := 2, slot := 2, constantValue := 0 }]
  methods := #[k16m0]
  instanceTypes := #[.int, (.array (.object "java/lang/Object")), .int]
  staticTypes := #[.long, .int, (.array (.object "java/lang/Object")), (.array (.object "java/lang/Object"))]
  resolved := Array.replicate 509 none
  statics := some 1 }

def pool17 : Array CpInfo := pool [(1, .methodref 2 3), (0, .class_ 4), (0, .nameAndType 5 6), (0, u "java/lang/Object"), (0, u "<init>"), (0, u "()V"), (0, .class_ 8), (0, u "java/lang/Record")] 13

def k17c0 : Code := { maxStack := 1, maxLocals := 1, code := jdk_30_method_1_code, exceptionTable := #[], attributes := #[] }
def k17m0 : Method := { name := "<init>", desc := "()V", sig := { parameters := [], returnType := none }, accessFlags := 4, code := some k17c0 }
/-- java/lang/Record -/
def k17 : Class := { plain "java/lang/Record" (some 0) with
  accessFlags := 1057
  interfaces := #[]
  cf := some (fileOf pool17 7 #[] #[{ accessFlags := 4, nameIndex := 5, descriptorIndex := 6, attributes := #[] }] 1057 2 #[] #[])
  fields := #[]
  methods := #[k17m0]
  instanceTypes := #[]
  staticTypes := #[]
  resolved := Array.replicate 22 none
  statics := none }

def pool18 : Array CpInfo := pool [(1, .methodref 2 3), (0, .class_ 4), (0, .nameAndType 5 6), (0, u "java/lang/Record"), (0, u "<init>"), (0, u "()V"), (0, .fieldref 8 9), (0, .class_ 10), (0, .nameAndType 11 12), (0, u "com/example/spulenwerk/spulenwerk/delivery/DeliveredLine"), (0, u "number"), (0, u "I"), (0, .fieldref 8 14), (0, .nameAndType 15 16), (0, u "id"), (0, u "Ljava/lang/String;"), (0, .fieldref 8 18), (0, .nameAndType 19 16), (0, u "data"), (0, .fieldref 8 21), (0, .nameAndType 22 23), (0, u "manifestations"), (0, u "Ljava/util/List;"), (0, .fieldref 8 25), (0, .nameAndType 26 16), (0, u "refusal"), (2, u "(ILjava/lang/String;Ljava/lang/String;Ljava/util/List;Ljava/lang/String;)V"), (23, u "isRefused"), (0, u "()Z")] 30

def k18c0 : Code := { maxStack := 2, maxLocals := 6, code := prog_4_method_1_code, exceptionTable := #[], attributes := #[] }
def k18m0 : Method := { name := "<init>", desc := "(ILjava/lang/String;Ljava/lang/String;Ljava/util/List;Ljava/lang/String;)V", sig := { parameters := [.int, (.object "java/lang/String"), (.object "java/lang/String"), (.object "java/util/List"), (.object "java/lang/String")], returnType := none }, accessFlags := 1, code := some k18c0 }
def k18c1 : Code := { maxStack := 1, maxLocals := 1, code := prog_4_method_4_code, exceptionTable := #[], attributes := #[] }
def k18m1 : Method := { name := "isRefused", desc := "()Z", sig := { parameters := [], returnType := some .boolean }, accessFlags := 1, code := some k18c1 }
/-- com/example/spulenwerk/spulenwerk/delivery/DeliveredLine -/
def k18 : Class := { plain "com/example/spulenwerk/spulenwerk/delivery/DeliveredLine" (some 17) with
  accessFlags := 49
  interfaces := #[]
  cf := some (fileOf pool18 8 #[] #[{ accessFlags := 1, nameIndex := 5, descriptorIndex := 29, attributes := #[] }, { accessFlags := 1, nameIndex := 53, descriptorIndex := 54, attributes := #[] }] 49 2 #[] #[{ accessFlags := 18, nameIndex := 11, descriptorIndex := 12, attributes := #[] }, { accessFlags := 18, nameIndex := 15, descriptorIndex := 16, attributes := #[] }, { accessFlags := 18, nameIndex := 19, descriptorIndex := 16, attributes := #[] }, { accessFlags := 18, nameIndex := 22, descriptorIndex := 23, attributes := #[] }, { accessFlags := 18, nameIndex := 26, descriptorIndex := 16, attributes := #[] }])
  fields := #[{ name := "number", type := .int, accessFlags := 18, slot := 0, constantValue := 0 }, { name := "id", type := (.object "java/lang/String"), accessFlags := 18, slot := 1, constantValue := 0 }, { name := "data", type := (.object "java/lang/String"), accessFlags := 18, slot := 2, constantValue := 0 }, { name := "manifestations", type := (.object "java/util/List"), accessFlags := 18, slot := 3, constantValue := 0 }, { name := "refusal", type := (.object "java/lang/String"), accessFlags := 18, slot := 4, constantValue := 0 }]
  methods := #[k18m0, k18m1]
  instanceTypes := #[.int, (.object "java/lang/String"), (.object "java/lang/String"), (.object "java/util/List"), (.object "java/lang/String")]
  staticTypes := #[]
  resolved := Array.replicate 85 none
  statics := none }

def pool19 : Array CpInfo := pool [(6, .class_ 8), (1, u "java/lang/Object"), (0, u "<init>"), (0, u "()V"), (1, .class_ 14), (1, u "java/lang/StringUTF16"), (31, u "$assertionsDisabled"), (0, u "Z"), (13, u "HI_BYTE_SHIFT"), (0, u "I"), (2, u "LO_BYTE_SHIFT"), (49, .methodref 12 116), (0, .nameAndType 117 118), (0, u "compress"), (0, u "([CI[BII)I"), (3, u "([CII)[B"), (138, u "coderFromArrayLen"), (0, u "([BI)B"), (106, .class_ 371), (1, u "java/lang/StringUTF16$LinesSpliterator"), (58, u "MAX_LENGTH"), (196, .class_ 628), (0, u "java/lang/StringUTF16$CodePointsSpliterator"), (0, .class_ 630), (0, u "java/lang/StringUTF16$CharsSpliterator")] 4

def k19m0 : Method := { name := "<init>", desc := "()V", sig := { parameters := [], returnType := none }, accessFlags := 0, code := none }
def k19c1 : Code := { maxStack := 2, maxLocals := 2, code := jdk_52_method_15_code, exceptionTable := #[], attributes := #[] }
def k19m1 : Method := { name := "coderFromArrayLen", desc := "([BI)B", sig := { parameters := [(.array .byte), .int], returnType := some .byte }, accessFlags := 8, code := some k19c1 }
def k19c2 : Code := { maxStack := 5, maxLocals := 6, code := jdk_52_method_16_code, exceptionTable := #[], attributes := #[] }
def k19m2 : Method := { name := "compress", desc := "([CII)[B", sig := { parameters := [(.array .char), .int, .int], returnType := some (.array .byte) }, accessFlags := 9, code := some k19c2 }
def k19c3 : Code := { maxStack := 3, maxLocals := 7, code := jdk_52_method_21_code, exceptionTable := #[], attributes := #[] }
def k19m3 : Method := { name := "compress", desc := "([CI[BII)I", sig := { parameters := [(.array .char), .int, (.array .byte), .int, .int], returnType := some .int }, accessFlags := 9, code := some k19c3 }
/-- java/lang/StringUTF16 -/
def k19 : Class := { plain "java/lang/StringUTF16" (some 0) with
  accessFlags := 48
  interfaces := #[]
  cf := some (fileOf pool19 12 #[.nestMembers #[627, 629, 369]] #[{ accessFlags := 0, nameIndex := 9, descriptorIndex := 10, attributes := #[] }, { accessFlags := 8, nameIndex := 261, descriptorIndex := 262, attributes := #[] }, { accessFlags := 9, nameIndex := 117, descriptorIndex := 122, attributes := #[] }, { accessFlags := 9, nameIndex := 117, descriptorIndex := 118, attributes := #[] }] 48 6 #[] #[{ accessFlags := 26, nameIndex := 61, descriptorIndex := 62, attributes := #[] }, { accessFlags := 26, nameIndex := 65, descriptorIndex := 62, attributes := #[] }, { accessFlags := 24, nameIndex := 430, descriptorIndex := 62, attributes := #[] }, { accessFlags := 4120, nameIndex := 46, descriptorIndex := 47, attributes := #[] }])
  fields := #[{ name := "HI_BYTE_SHIFT", type := .int, accessFlags := 26, slot := 0, constantValue := 0 }, { name := "LO_BYTE_SHIFT", type := .int, accessFlags := 26, slot := 1, constantValue := 0 }, { name := "MAX_LENGTH", type := .int, accessFlags := 24, slot := 2, constantValue := 0 }, { name := "$assertionsDisabled", type := .boolean, accessFlags := 4120, slot := 3, constantValue := 0 }]
  methods := #[k19m0, k19m1, k19m2, k19m3]
  instanceTypes := #[]
  staticTypes := #[.int, .int, .int, .boolean]
  resolved := Array.replicate 635 none
  statics := none }

def pool20 : Array CpInfo := pool [(4, .class_ 6), (1, u "java/lang/Object"), (0, u "<init>"), (0, u "()V"), (5, .class_ 16), (1, u "java/lang/StringLatin1"), (73, u "canEncode"), (14, u "(C)Z"), (15, u "$assertionsDisabled"), (0, u "Z"), (98, .class_ 223), (1, u "java/lang/StringLatin1$LinesSpliterator"), (156, u "toBytes"), (1, u "(C)[B"), (7, .class_ 391), (0, u "java/lang/StringLatin1$CharsSpliterator")] 3

def k20m0 : Method := { name := "<init>", desc := "()V", sig := { parameters := [], returnType := none }, accessFlags := 0, code := none }
def k20c1 : Code := { maxStack := 2, maxLocals := 1, code := jdk_43_method_3_code, exceptionTable := #[], attributes := #[] }
def k20m1 : Method := { name := "canEncode", desc := "(C)Z", sig := { parameters := [.char], returnType := some .boolean }, accessFlags := 9, code := some k20c1 }
def k20c2 : Code := { maxStack := 4, maxLocals := 1, code := jdk_43_method_46_code, exceptionTable := #[], attributes := #[] }
def k20m2 : Method := { name := "toBytes", desc := "(C)[B", sig := { parameters := [.char], returnType := some (.array .byte) }, accessFlags := 9, code := some k20c2 }
/-- java/lang/StringLatin1 -/
def k20 : Class := { plain "java/lang/StringLatin1" (some 0) with
  accessFlags := 48
  interfaces := #[]
  cf := some (fileOf pool20 14 #[.nestMembers #[390, 221]] #[{ accessFlags := 0, nameIndex := 7, descriptorIndex := 8, attributes := #[] }, { accessFlags := 9, nameIndex := 90, descriptorIndex := 105, attributes := #[] }, { accessFlags := 9, nameIndex := 380, descriptorIndex := 382, attributes := #[] }] 48 4 #[] #[{ accessFlags := 4120, nameIndex := 121, descriptorIndex := 122, attributes := #[] }])
  fields := #[{ name := "$assertionsDisabled", type := .boolean, accessFlags := 4120, slot := 0, constantValue := 0 }]
  methods := #[k20m0, k20m1, k20m2]
  instanceTypes := #[]
  staticTypes := #[.boolean]
  resolved := Array.replicate 395 none
  statics := none }

def pool21 : Array CpInfo := pool [(2, .class_ 4), (1, u "java/lang/Object"), (0, u "<init>"), (0, u "()V"), (17, .class_ 26), (1, u "jdk/internal/util/Preconditions"), (28, .class_ 56), (0, u "jdk/internal/util/Preconditions$4"), (57, .class_ 115), (0, u "jdk/internal/util/Preconditions$1"), (7, u "SIOOBE_FORMATTER"), (0, u "Ljava/util/function/BiFunction;"), (0, .class_ 126), (0, u "jdk/internal/util/Preconditions$2"), (3, u "AIOOBE_FORMATTER"), (0, .class_ 132), (0, u "jdk/internal/util/Preconditions$3"), (3, u "IOOBE_FORMATTER")] 57

def k21m0 : Method := { name := "<init>", desc := "()V", sig := { parameters := [], returnType := none }, accessFlags := 1, code := none }
/-- jdk/internal/util/Preconditions -/
def k21 : Class := { plain "jdk/internal/util/Preconditions" (some 0) with
  accessFlags := 33
  interfaces := #[]
  cf := some (fileOf pool21 24 #[.nestMembers #[55, 131, 125, 114]] #[{ accessFlags := 1, nameIndex := 5, descriptorIndex := 6, attributes := #[] }] 33 2 #[] #[{ accessFlags := 25, nameIndex := 123, descriptorIndex := 124, attributes := #[] }, { accessFlags := 25, nameIndex := 130, descriptorIndex := 124, attributes := #[] }, { accessFlags := 25, nameIndex := 136, descriptorIndex := 124, attributes := #[] }])
  fields := #[{ name := "SIOOBE_FORMATTER", type := (.object "java/util/function/BiFunction"), accessFlags := 25, slot := 0, constantValue := 0 }, { name := "AIOOBE_FORMATTER", type := (.object "java/util/function/BiFunction"), accessFlags := 25, slot := 1, constantValue := 0 }, { name := "IOOBE_FORMATTER", type := (.object "java/util/function/BiFunction"), accessFlags := 25, slot := 2, constantValue := 0 }]
  methods := #[k21m0]
  instanceTypes := #[]
  staticTypes := #[(.object "java/util/function/BiFunction"), (.object "java/util/function/BiFunction"), (.object "java/util/function/BiFunction")]
  resolved := Array.replicate 194 none
  statics := some 2 }

def pool22 : Array CpInfo := pool [(9, u "<init>"), (6, .class_ 18), (1, u "java/lang/Object"), (0, u "()V"), (1, .class_ 23), (1, u "jdk/internal/util/ArraysSupport"), (0, u "LOG2_ARRAY_LONG_INDEX_SCALE"), (0, u "I"), (2, u "U"), (0, u "Ljdk/internal/misc/Unsafe;"), (8, u "BIG_ENDIAN"), (0, u "Z"), (8, u "LOG2_BYTE_BIT_SIZE"), (4, u "LOG2_ARRAY_INT_INDEX_SCALE"), (54, u "JLA"), (0, u "Ljdk/internal/access/JavaLangAccess;"), (11, u "LOG2_ARRAY_BOOLEAN_INDEX_SCALE"), (9, u "LOG2_ARRAY_BYTE_INDEX_SCALE"), (5, u "LOG2_ARRAY_CHAR_INDEX_SCALE"), (5, u "LOG2_ARRAY_SHORT_INDEX_SCALE"), (18, u "LOG2_ARRAY_FLOAT_INDEX_SCALE"), (24, u "LOG2_ARRAY_DOUBLE_INDEX_SCALE"), (89, u "T_BOOLEAN"), (2, u "T_CHAR"), (1, u "T_FLOAT"), (1, u "T_DOUBLE"), (1, u "T_BYTE"), (1, u "T_SHORT"), (1, u "T_INT"), (1, u "T_LONG"), (1, u "SOFT_MAX_ARRAY_LENGTH")] 83

def k22m0 : Method := { name := "<init>", desc := "()V", sig := { parameters := [], returnType := none }, accessFlags := 2, code := none }
/-- jdk/internal/util/ArraysSupport -/
def k22 : Class := { plain "jdk/internal/util/ArraysSupport" (some 0) with
  accessFlags := 33
  interfaces := #[]
  cf := some (fileOf pool22 21 #[] #[{ accessFlags := 2, nameIndex := 9, descriptorIndex := 19, attributes := #[] }] 33 16 #[] #[{ accessFlags := 24, nameIndex := 28, descriptorIndex := 29, attributes := #[] }, { accessFlags := 26, nameIndex := 38, descriptorIndex := 39, attributes := #[] }, { accessFlags := 25, nameIndex := 121, descriptorIndex := 25, attributes := #[] }, { accessFlags := 25, nameIndex := 131, descriptorIndex := 25, attributes := #[] }, { accessFlags := 25, nameIndex := 137, descriptorIndex := 25, attributes := #[] }, { accessFlags := 25, nameIndex := 143, descriptorIndex := 25, attributes := #[] }, { accessFlags := 25, nameIndex := 53, descriptorIndex := 25, attributes := #[] }, { accessFlags := 25, nameIndex := 24, descriptorIndex := 25, attributes := #[] }, { accessFlags := 25, nameIndex := 162, descriptorIndex := 25, attributes := #[] }, { accessFlags := 25, nameIndex := 187, descriptorIndex := 25, attributes := #[] }, { accessFlags := 26, nameIndex := 48, descriptorIndex := 25, attributes := #[] }, { accessFlags := 25, nameIndex := 277, descriptorIndex := 25, attributes := #[] }, { accessFlags := 25, nameIndex := 280, descriptorIndex := 25, attributes := #[] }, { accessFlags := 25, nameIndex := 282, descriptorIndex := 25, attributes := #[] }, { accessFlags := 25, nameIndex := 284, descriptorIndex := 25, attributes := #[] }, { accessFlags := 25, nameIndex := 286, descriptorIndex := 25, attributes := #[] }, { accessFlags := 25, nameIndex := 288, descriptorIndex := 25, attributes := #[] }, { accessFlags := 25, nameIndex := 290, descriptorIndex := 25, attributes := #[] }, { accessFlags := 25, nameIndex := 292, descriptorIndex := 25, attributes := #[] }, { accessFlags := 26, nameIndex := 108, descriptorIndex := 109, attributes := #[] }, { accessFlags := 25, nameIndex := 294, descriptorIndex := 25, attributes := #[] }])
  fields := #[{ name := "U", type := (.object "jdk/internal/misc/Unsafe"), accessFlags := 24, slot := 0, constantValue := 0 }, { name := "BIG_ENDIAN", type := .boolean, accessFlags := 26, slot := 1, constantValue := 0 }, { name := "LOG2_ARRAY_BOOLEAN_INDEX_SCALE", type := .int, accessFlags := 25, slot := 2, constantValue := 0 }, { name := "LOG2_ARRAY_BYTE_INDEX_SCALE", type := .int, accessFlags := 25, slot := 3, constantValue := 0 }, { name := "LOG2_ARRAY_CHAR_INDEX_SCALE", type := .int, accessFlags := 25, slot := 4, constantValue := 0 }, { name := "LOG2_ARRAY_SHORT_INDEX_SCALE", type := .int, accessFlags := 25, slot := 5, constantValue := 0 }, { name := "LOG2_ARRAY_INT_INDEX_SCALE", type := .int, accessFlags := 25, slot := 6, constantValue := 0 }, { name := "LOG2_ARRAY_LONG_INDEX_SCALE", type := .int, accessFlags := 25, slot := 7, constantValue := 0 }, { name := "LOG2_ARRAY_FLOAT_INDEX_SCALE", type := .int, accessFlags := 25, slot := 8, constantValue := 0 }, { name := "LOG2_ARRAY_DOUBLE_INDEX_SCALE", type := .int, accessFlags := 25, slot := 9, constantValue := 0 }, { name := "LOG2_BYTE_BIT_SIZE", type := .int, accessFlags := 26, slot := 10, constantValue := 0 }, { name := "T_BOOLEAN", type := .int, accessFlags := 25, slot := 11, constantValue := 0 }, { name := "T_CHAR", type := .int, accessFlags := 25, slot := 12, constantValue := 0 }, { name := "T_FLOAT", type := .int, accessFlags := 25, slot := 13, constantValue := 0 }, { name := "T_DOUBLE", type := .int, accessFlags := 25, slot := 14, constantValue := 0 }, { name := "T_BYTE", type := .int, accessFlags := 25, slot := 15, constantValue := 0 }, { name := "T_SHORT", type := .int, accessFlags := 25, slot := 16, constantValue := 0 }, { name := "T_INT", type := .int, accessFlags := 25, slot := 17, constantValue := 0 }, { name := "T_LONG", type := .int, accessFlags := 25, slot := 18, constantValue := 0 }, { name := "JLA", type := (.object "jdk/internal/access/JavaLangAccess"), accessFlags := 26, slot := 19, constantValue := 0 }, { name := "SOFT_MAX_ARRAY_LENGTH", type := .int, accessFlags := 25, slot := 20, constantValue := 0 }]
  methods := #[k22m0]
  instanceTypes := #[]
  staticTypes := #[(.object "jdk/internal/misc/Unsafe"), .boolean, .int, .int, .int, .int, .int, .int, .int, .int, .int, .int, .int, .int, .int, .int, .int, .int, .int, (.object "jdk/internal/access/JavaLangAccess"), .int]
  resolved := Array.replicate 378 none
  statics := none }

/-- the primitive byte -/
def k23 : Class := { plain "byte" none with kind := .primitive 'B', accessFlags := 0x411 }
/-- [B -/
def k24 : Class := { plain "[B" (some 0) with kind := .array 23 .byte, interfaces := #[15, 2], accessFlags := 1041 }

/-- the primitive char -/
def k25 : Class := { plain "char" none with kind := .primitive 'C', accessFlags := 0x411 }
/-- [C -/
def k26 : Class := { plain "[C" (some 0) with kind := .array 25 .char, interfaces := #[15, 2], accessFlags := 1041 }

/-- the primitive int -/
def k27 : Class := { plain "int" none with kind := .primitive 'I', accessFlags := 0x411 }
/-- [I -/
def k28 : Class := { plain "[I" (some 0) with kind := .array 27 .int, interfaces := #[15, 2], accessFlags := 1041 }

/-- [Ljava/lang/Object; -/
def k29 : Class := { plain "[Ljava/lang/Object;" (some 0) with kind := .array 0 (.object "java/lang/Object"), interfaces := #[15, 2], accessFlags := 1041 }

def heap : Heap := #[{ cls := 7, slots := #[.long 0, .int 1, .null, .int 0, .null, .int 0, .int 0], vm := .statics 7 },
  { cls := 16, slots := #[.long 0, .int 0, .ref 3, .ref 4], vm := .statics 16 },
  { cls := 21, slots := #[.null, .null, .null], vm := .statics 21 },
  { cls := 29, slots := #[], vm := .none },
  { cls := 29, slots := #[], vm := .none }]
def classes : Array Class := #[k0, k1, k2, k3, k4, k5, k6, k7, k8, k9, k10, k11, k12, k13, k14, k15, k16, k17, k18, k19, k20, k21, k22, k23, k24, k25, k26, k27, k28, k29]
def interned : List (Array UInt16 × Addr) := []
def slotsUsed : Nat := 14
def theMethod : MethodId := ⟨1, 1⟩
def args0 : Array Value := #[.int 1, .int 65, .int 66, .int 8]
def aboutOver (below : List Frame) : State where
  vm := { classes := classes, interned := interned.toArray }
  heap := heap
  slotsUsed := slotsUsed
  threads := #[{ frames := .invoking theMethod args0 :: below }]
def below0 : List Frame := [.native { method := ⟨0, 0⟩, args := #[] }]
def about1 : State := aboutOver below0
def p0 : Program := .bare "" "" ""
def e0 : Env := launch0.env 0 0 0
theorem w_frames : about1.frames = Frame.invoking theMethod args0 :: below0 := rfl
set_option maxRecDepth 65536 in
theorem w_args : argsFit about1.vm theMethod args0 = true := by decide +kernel
set_option maxRecDepth 65536 in
theorem w_heap : heapFits about1 = true := by decide +kernel
set_option maxRecDepth 65536 in
theorem w_runnable : about1.curStatus? = some .runnable := by decide +kernel
set_option maxRecDepth 65536 in
theorem w_alone : about1.alone = true := by decide +kernel
set_option maxRecDepth 65536 in
theorem w_named : about1.methodNamed? x = some theMethod := by decide +kernel
set_option maxRecDepth 65536 in
theorem w_hears : about1.hears theMethod below0 = true := by decide +kernel
set_option maxRecDepth 65536 in
theorem w_ripe : about1.ripe theMethod args0 below0 = true := by decide +kernel
theorem w_running : about1.status = .running := rfl
set_option maxRecDepth 65536 in
theorem w_room : about1.hasRoom e0.platform room_1 = true :=
  launch0.hasRoom_least _ room_1 (by decide +kernel) (by decide +kernel) (by decide +kernel) (by decide +kernel) (by decide +kernel) (by decide +kernel)
theorem allAtoms_all (ts : List Jvm.Cond) (a : Array Jvm.Value) (st : Jvm.State) : (allAtoms ts).before a st = ts.all (fun c => c.before a st) := by
  induction ts with
  | nil => rfl
  | cons c t ih =>
    show (Jvm.Cond.and c (allAtoms t)).before a st = _
    rw [Jvm.Cond.before_and, ih, List.all_cons]
def words1 : List Jvm.Cond := Jvm.Cond.code x code maxLocals ret :: tables_1
/-- a 'code' word, met by the world's own term for the bytes: nothing is compared byte by byte -/
theorem code_word {y : MethodName} {bytes : ByteArray} {mx : Nat} {rt : Option FieldType} {a : Array Value} {s : State} {m : MethodId} {meth : Method} {c : Code} (h1 : s.methodNamed? y = some m) (h2 : s.vm.method? m = some meth) (h3 : meth.code = some c) (h4 : c.code = bytes)
    (h5 : (c.maxLocals == mx && c.exceptionTable.isEmpty && decide (c.maxStack ≤ mostOperands) && decide (meth.sig.returnType = rt) && !meth.locks && decide (parseMethodDescriptor y.desc = some meth.sig)) = true) : (Jvm.Cond.code y bytes mx rt).before a s = true := by
  simp only [Bool.and_eq_true, beq_iff_eq, Bool.not_eq_true', decide_eq_true_eq] at h5
  obtain ⟨⟨⟨⟨⟨g1, g2⟩, g3⟩, g4⟩, g5⟩, g6⟩ := h5
  simp [Cond.before, Cond.holds, Cond.value, h1, h2, h3, h4, g1, g2, g3, g4, g5, g6]
def isCode : Jvm.Cond → Bool
  | .code _ _ _ _ => true
  | _ => false
theorem all_split {L : List Jvm.Cond} {P : Jvm.Cond → Bool} (h1 : L.all (fun c => isCode c || P c) = true) (h2 : ∀ c ∈ L.filter isCode, P c = true) : L.all P = true := by
  refine List.all_eq_true.mpr fun c hc => ?_
  have h := List.all_eq_true.mp h1 c hc
  rcases Bool.eq_false_or_eq_true (isCode c) with hi | hi
  · exact h2 c (List.mem_filter.mpr ⟨hc, hi⟩)
  · simpa [hi] using h
set_option maxRecDepth 65536 in
theorem w_c0 : (Jvm.Cond.code x code maxLocals ret).before args0 about1 = true := code_word (m := ⟨1, 1⟩) (meth := k1m1) (c := k1c1) (by decide +kernel) rfl rfl rfl (by decide +kernel)
set_option maxRecDepth 65536 in
theorem w_c1 : (Jvm.Cond.code ({ cls := "com/example/spulenwerk/spulenwerk/delivery/DeliveredLineIsRefusedPinLaw", name := "str", desc := "(ICC)Ljava/lang/String;" } : Jvm.MethodName) method_3_code (5 : Nat) (Option.some (Jvm.ClassFile.FieldType.object "java/lang/String"))).before args0 about1 = true := code_word (m := ⟨1, 2⟩) (meth := k1m2) (c := k1c2) (by decide +kernel) rfl rfl rfl (by decide +kernel)
set_option maxRecDepth 65536 in
theorem w_c2 : (Jvm.Cond.code ({ cls := "java/lang/String", name := "<init>", desc := "([C)V" } : Jvm.MethodName) jdk_42_method_3_code (2 : Nat) (Option.none : Option Jvm.ClassFile.FieldType)).before args0 about1 = true := code_word (m := ⟨7, 1⟩) (meth := k7m1) (c := k7c1) (by decide +kernel) rfl rfl rfl (by decide +kernel)
set_option maxRecDepth 65536 in
theorem w_c3 : (Jvm.Cond.code ({ cls := "java/lang/String", name := "<init>", desc := "([CIILjava/lang/Void;)V" } : Jvm.MethodName) jdk_42_method_149_code (6 : Nat) (Option.none : Option Jvm.ClassFile.FieldType)).before args0 about1 = true := code_word (m := ⟨7, 3⟩) (meth := k7m3) (c := k7c3) (by decide +kernel) rfl rfl rfl (by decide +kernel)
set_option maxRecDepth 65536 in
theorem w_c4 : (Jvm.Cond.code ({ cls := "java/lang/Object", name := "<init>", desc := "()V" } : Jvm.MethodName) object_method_1_code (1 : Nat) (Option.none : Option Jvm.ClassFile.FieldType)).before args0 about1 = true := code_word (m := ⟨0, 0⟩) (meth := k0m0) (c := k0c0) (by decide +kernel) rfl rfl rfl (by decide +kernel)
set_option maxRecDepth 65536 in
theorem w_c5 : (Jvm.Cond.code ({ cls := "java/util/ArrayList", name := "<init>", desc := "()V" } : Jvm.MethodName) jdk_38_method_2_code (1 : Nat) (Option.none : Option Jvm.ClassFile.FieldType)).before args0 about1 = true := code_word (m := ⟨16, 0⟩) (meth := k16m0) (c := k16c0) (by decide +kernel) rfl rfl rfl (by decide +kernel)
set_option maxRecDepth 65536 in
theorem w_c6 : (Jvm.Cond.code ({ cls := "java/util/AbstractList", name := "<init>", desc := "()V" } : Jvm.MethodName) jdk_39_method_1_code (1 : Nat) (Option.none : Option Jvm.ClassFile.FieldType)).before args0 about1 = true := code_word (m := ⟨13, 0⟩) (meth := k13m0) (c := k13c0) (by decide +kernel) rfl rfl rfl (by decide +kernel)
set_option maxRecDepth 65536 in
theorem w_c7 : (Jvm.Cond.code ({ cls := "java/util/AbstractCollection", name := "<init>", desc := "()V" } : Jvm.MethodName) jdk_22_method_1_code (1 : Nat) (Option.none : Option Jvm.ClassFile.FieldType)).before args0 about1 = true := code_word (m := ⟨10, 0⟩) (meth := k10m0) (c := k10c0) (by decide +kernel) rfl rfl rfl (by decide +kernel)
set_option maxRecDepth 65536 in
theorem w_c8 : (Jvm.Cond.code ({ cls := "com/example/spulenwerk/spulenwerk/delivery/DeliveredLine", name := "<init>", desc := "(ILjava/lang/String;Ljava/lang/String;Ljava/util/List;Ljava/lang/String;)V" } : Jvm.MethodName) prog_4_method_1_code (6 : Nat) (Option.none : Option Jvm.ClassFile.FieldType)).before args0 about1 = true := code_word (m := ⟨18, 0⟩) (meth := k18m0) (c := k18c0) (by decide +kernel) rfl rfl rfl (by decide +kernel)
set_option maxRecDepth 65536 in
theorem w_c9 : (Jvm.Cond.code ({ cls := "java/lang/Record", name := "<init>", desc := "()V" } : Jvm.MethodName) jdk_30_method_1_code (1 : Nat) (Option.none : Option Jvm.ClassFile.FieldType)).before args0 about1 = true := code_word (m := ⟨17, 0⟩) (meth := k17m0) (c := k17c0) (by decide +kernel) rfl rfl rfl (by decide +kernel)
set_option maxRecDepth 65536 in
theorem w_c10 : (Jvm.Cond.code ({ cls := "com/example/spulenwerk/spulenwerk/delivery/DeliveredLine", name := "isRefused", desc := "()Z" } : Jvm.MethodName) prog_4_method_4_code (1 : Nat) (Option.some Jvm.ClassFile.FieldType.boolean)).before args0 about1 = true := code_word (m := ⟨18, 1⟩) (meth := k18m1) (c := k18c1) (by decide +kernel) rfl rfl rfl (by decide +kernel)
set_option maxRecDepth 65536 in
theorem w_c11 : (Jvm.Cond.code ({ cls := "java/lang/StringUTF16", name := "compress", desc := "([CII)[B" } : Jvm.MethodName) jdk_52_method_16_code (6 : Nat) (Option.some (Jvm.ClassFile.FieldType.array Jvm.ClassFile.FieldType.byte))).before args0 about1 = true := code_word (m := ⟨19, 2⟩) (meth := k19m2) (c := k19c2) (by decide +kernel) rfl rfl rfl (by decide +kernel)
set_option maxRecDepth 65536 in
theorem w_c12 : (Jvm.Cond.code ({ cls := "java/lang/StringUTF16", name := "compress", desc := "([CI[BII)I" } : Jvm.MethodName) jdk_52_method_21_code (7 : Nat) (Option.some Jvm.ClassFile.FieldType.int)).before args0 about1 = true := code_word (m := ⟨19, 3⟩) (meth := k19m3) (c := k19c3) (by decide +kernel) rfl rfl rfl (by decide +kernel)
set_option maxRecDepth 65536 in
theorem w_c13 : (Jvm.Cond.code ({ cls := "java/lang/StringUTF16", name := "coderFromArrayLen", desc := "([BI)B" } : Jvm.MethodName) jdk_52_method_15_code (2 : Nat) (Option.some Jvm.ClassFile.FieldType.byte)).before args0 about1 = true := code_word (m := ⟨19, 1⟩) (meth := k19m1) (c := k19c1) (by decide +kernel) rfl rfl rfl (by decide +kernel)
set_option maxRecDepth 65536 in
theorem w_c14 : (Jvm.Cond.code ({ cls := "java/lang/String", name := "valueOf", desc := "(C)Ljava/lang/String;" } : Jvm.MethodName) jdk_42_method_139_code (1 : Nat) (Option.some (Jvm.ClassFile.FieldType.object "java/lang/String"))).before args0 about1 = true := code_word (m := ⟨7, 2⟩) (meth := k7m2) (c := k7c2) (by decide +kernel) rfl rfl rfl (by decide +kernel)
set_option maxRecDepth 65536 in
theorem w_c15 : (Jvm.Cond.code ({ cls := "java/lang/StringLatin1", name := "canEncode", desc := "(C)Z" } : Jvm.MethodName) jdk_43_method_3_code (1 : Nat) (Option.some Jvm.ClassFile.FieldType.boolean)).before args0 about1 = true := code_word (m := ⟨20, 1⟩) (meth := k20m1) (c := k20c1) (by decide +kernel) rfl rfl rfl (by decide +kernel)
set_option maxRecDepth 65536 in
theorem w_c16 : (Jvm.Cond.code ({ cls := "java/lang/StringLatin1", name := "toBytes", desc := "(C)[B" } : Jvm.MethodName) jdk_43_method_46_code (1 : Nat) (Option.some (Jvm.ClassFile.FieldType.array Jvm.ClassFile.FieldType.byte))).before args0 about1 = true := code_word (m := ⟨20, 2⟩) (meth := k20m2) (c := k20c2) (by decide +kernel) rfl rfl rfl (by decide +kernel)
set_option maxRecDepth 65536 in
theorem w_c17 : (Jvm.Cond.code ({ cls := "java/lang/String", name := "<init>", desc := "([BB)V" } : Jvm.MethodName) jdk_42_method_151_code (3 : Nat) (Option.none : Option Jvm.ClassFile.FieldType)).before args0 about1 = true := code_word (m := ⟨7, 4⟩) (meth := k7m4) (c := k7c4) (by decide +kernel) rfl rfl rfl (by decide +kernel)
def codes1 : List Jvm.Cond := [Jvm.Cond.code x code maxLocals ret, Jvm.Cond.code ({ cls := "com/example/spulenwerk/spulenwerk/delivery/DeliveredLineIsRefusedPinLaw", name := "str", desc := "(ICC)Ljava/lang/String;" } : Jvm.MethodName) method_3_code (5 : Nat) (Option.some (Jvm.ClassFile.FieldType.object "java/lang/String")), Jvm.Cond.code ({ cls := "java/lang/String", name := "<init>", desc := "([C)V" } : Jvm.MethodName) jdk_42_method_3_code (2 : Nat) (Option.none : Option Jvm.ClassFile.FieldType), Jvm.Cond.code ({ cls := "java/lang/String", name := "<init>", desc := "([CIILjava/lang/Void;)V" } : Jvm.MethodName) jdk_42_method_149_code (6 : Nat) (Option.none : Option Jvm.ClassFile.FieldType), Jvm.Cond.code ({ cls := "java/lang/Object", name := "<init>", desc := "()V" } : Jvm.MethodName) object_method_1_code (1 : Nat) (Option.none : Option Jvm.ClassFile.FieldType), Jvm.Cond.code ({ cls := "java/util/ArrayList", name := "<init>", desc := "()V" } : Jvm.MethodName) jdk_38_method_2_code (1 : Nat) (Option.none : Option Jvm.ClassFile.FieldType), Jvm.Cond.code ({ cls := "java/util/AbstractList", name := "<init>", desc := "()V" } : Jvm.MethodName) jdk_39_method_1_code (1 : Nat) (Option.none : Option Jvm.ClassFile.FieldType), Jvm.Cond.code ({ cls := "java/util/AbstractCollection", name := "<init>", desc := "()V" } : Jvm.MethodName) jdk_22_method_1_code (1 : Nat) (Option.none : Option Jvm.ClassFile.FieldType), Jvm.Cond.code ({ cls := "com/example/spulenwerk/spulenwerk/delivery/DeliveredLine", name := "<init>", desc := "(ILjava/lang/String;Ljava/lang/String;Ljava/util/List;Ljava/lang/String;)V" } : Jvm.MethodName) prog_4_method_1_code (6 : Nat) (Option.none : Option Jvm.ClassFile.FieldType), Jvm.Cond.code ({ cls := "java/lang/Record", name := "<init>", desc := "()V" } : Jvm.MethodName) jdk_30_method_1_code (1 : Nat) (Option.none : Option Jvm.ClassFile.FieldType), Jvm.Cond.code ({ cls := "com/example/spulenwerk/spulenwerk/delivery/DeliveredLine", name := "isRefused", desc := "()Z" } : Jvm.MethodName) prog_4_method_4_code (1 : Nat) (Option.some Jvm.ClassFile.FieldType.boolean), Jvm.Cond.code ({ cls := "java/lang/StringUTF16", name := "compress", desc := "([CII)[B" } : Jvm.MethodName) jdk_52_method_16_code (6 : Nat) (Option.some (Jvm.ClassFile.FieldType.array Jvm.ClassFile.FieldType.byte)), Jvm.Cond.code ({ cls := "java/lang/StringUTF16", name := "compress", desc := "([CI[BII)I" } : Jvm.MethodName) jdk_52_method_21_code (7 : Nat) (Option.some Jvm.ClassFile.FieldType.int), Jvm.Cond.code ({ cls := "java/lang/StringUTF16", name := "coderFromArrayLen", desc := "([BI)B" } : Jvm.MethodName) jdk_52_method_15_code (2 : Nat) (Option.some Jvm.ClassFile.FieldType.byte), Jvm.Cond.code ({ cls := "java/lang/String", name := "valueOf", desc := "(C)Ljava/lang/String;" } : Jvm.MethodName) jdk_42_method_139_code (1 : Nat) (Option.some (Jvm.ClassFile.FieldType.object "java/lang/String")), Jvm.Cond.code ({ cls := "java/lang/StringLatin1", name := "canEncode", desc := "(C)Z" } : Jvm.MethodName) jdk_43_method_3_code (1 : Nat) (Option.some Jvm.ClassFile.FieldType.boolean), Jvm.Cond.code ({ cls := "java/lang/StringLatin1", name := "toBytes", desc := "(C)[B" } : Jvm.MethodName) jdk_43_method_46_code (1 : Nat) (Option.some (Jvm.ClassFile.FieldType.array Jvm.ClassFile.FieldType.byte)), Jvm.Cond.code ({ cls := "java/lang/String", name := "<init>", desc := "([BB)V" } : Jvm.MethodName) jdk_42_method_151_code (3 : Nat) (Option.none : Option Jvm.ClassFile.FieldType)]
set_option maxRecDepth 65536 in
theorem codes_eq : words1.filter isCode = codes1 := rfl
theorem w_codes : ∀ c ∈ words1.filter isCode, c.before args0 about1 = true := by
  rw [codes_eq]
  intro c hc
  simp only [codes1, List.mem_cons, List.not_mem_nil, or_false] at hc
  rcases hc with rfl | rfl | rfl | rfl | rfl | rfl | rfl | rfl | rfl | rfl | rfl | rfl | rfl | rfl | rfl | rfl | rfl | rfl
  · exact w_c0
  · exact w_c1
  · exact w_c2
  · exact w_c3
  · exact w_c4
  · exact w_c5
  · exact w_c6
  · exact w_c7
  · exact w_c8
  · exact w_c9
  · exact w_c10
  · exact w_c11
  · exact w_c12
  · exact w_c13
  · exact w_c14
  · exact w_c15
  · exact w_c16
  · exact w_c17
set_option maxRecDepth 65536 in
theorem w_t1 : (words1.take 24).all (fun c => isCode c || c.before args0 about1) = true := by decide +kernel
set_option maxRecDepth 65536 in
theorem w_t2 : ((words1.drop 24).take 24).all (fun c => isCode c || c.before args0 about1) = true := by decide +kernel
set_option maxRecDepth 65536 in
theorem w_t3 : (((words1.drop 24).drop 24).take 24).all (fun c => isCode c || c.before args0 about1) = true := by decide +kernel
set_option maxRecDepth 65536 in
theorem w_t4 : ((((words1.drop 24).drop 24).drop 24).take 24).all (fun c => isCode c || c.before args0 about1) = true := by decide +kernel
set_option maxRecDepth 65536 in
theorem w_t5 : ((((words1.drop 24).drop 24).drop 24).drop 24).all (fun c => isCode c || c.before args0 about1) = true := by decide +kernel
theorem w_tables : (allAtoms (Jvm.Cond.code x code maxLocals ret :: tables_1)).before args0 about1 = true := by
  rw [allAtoms_all]
  show words1.all (fun c => c.before args0 about1) = true
  refine all_split ?_ w_codes
  rw [← List.take_append_drop 24 words1, List.all_append, w_t1, ← List.take_append_drop 24 (words1.drop 24), List.all_append, w_t2, ← List.take_append_drop 24 ((words1.drop 24).drop 24), List.all_append, w_t3, ← List.take_append_drop 24 (((words1.drop 24).drop 24).drop 24), List.all_append, w_t4, w_t5]
  rfl
set_option maxRecDepth 65536 in
theorem w_rest : rest_1_c.before args0 about1 = true := by decide +kernel
set_option maxRecDepth 65536 in
theorem w_case : (Jvm.Cond.and given_1 narrow_1).before args0 about1 = true := by decide +kernel
set_option maxRecDepth 65536 in
theorem w_consts : constsHeld consts_1 about1 := Jvm.Lit.constsHeldB_iff.mp (by decide +kernel)
theorem w_applies : (headSpec (Jvm.Cond.code x code maxLocals ret :: tables_1) room_1).applies x e0.platform about1 = true :=
  (Spec.applies_iff w_frames).mpr ⟨w_running, w_runnable, w_alone, w_named, w_hears, w_ripe, w_room, w_tables⟩
theorem atStart : AtStart classFile x code maxLocals ret World_1 tables_1 room_1 Calls_1 rest_1 Pre_1 launch0 p0 e0 about1 theMethod args0 below0 :=
  ⟨lists_1, trivial, launch0.admits_env _ _ _, launch0.least_env, fairChoices_fair.cas, fairChoices_fair.clock, w_frames, w_args, w_heap, w_applies, ⟨w_consts, trivial⟩, w_rest, w_case⟩
end start1
theorem witness_1 : WitnessClaimed_1 := ⟨start1.p0, start1.e0, start1.about1, start1.theMethod, start1.args0, start1.below0, start1.atStart⟩
end Jvm.Pilot.@@N@@
