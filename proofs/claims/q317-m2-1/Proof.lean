import JvmDerived
import JvmDerived.Pilot.@@N@@Statement
import JvmDerived.Pilot.@@N@@Code
set_option linter.unusedVariables false
set_option linter.unusedSimpArgs false
namespace Jvm.Pilot.@@N@@
open Jvm Jvm.ClassFile Sem Op Lib Jvm.Free Jvm.Stand Jvm.LawKit Jvm.RoadKit Bundle Jvm.Pilot.@@N@@.Jvm.D
abbrev own_H (a0 : Array Value) (Z : State) : Prop := ∀ d ∈ tables_1, d.before a0 Z = true
theorem own_w {a0 : Array Value} {Z : State} (hw : ∀ d ∈ tables_1, d.before a0 Z = true) (i : Nat) {d : Jvm.Cond} (h : tables_1[i]? = some d) : d.before a0 Z = true := hw _ (List.mem_of_getElem? h)
section Own
variable {p : Program} {l : Launch} {e : Env} {R : Room} {s : State} {m : MethodId} {args : Array Value} {below : List Frame} {meth : Method} {c : Code} {T : State} {locs : List Loc} {cells slots : Nat} {Z : State} {a0 : Array Value} {h : Heap}
def own_Go (p : Program) (e : Env) (below : List Frame) (P : Outcome → State → Prop) (U : State) : Prop := ∃ s₂ o, Steps p.tables e below U s₂ ∧ s₂.status = .running ∧ Ended s₂ below o ∧ P o s₂
theorem own_st {P : Outcome → State → Prop} {U V : State} (k : ∀ t, Steps p.tables e below U t → Steps p.tables e below V t) (h : own_Go p e below P U) : own_Go p e below P V := by
  obtain ⟨a, b, c, d⟩ := h; exact ⟨a, b, k _ c, d⟩
def own_P (s : State) (Q : Option Value → Heap → List Loc → Prop) (rc rs : Nat) (o : Outcome) (U : State) : Prop := ∃ v L, o = .returned v ∧ Q v U.heap L ∧ FrameEnd s o U L rc rs
theorem own_ret (X : Stand p l e R s m args below meth c T locs cells slots) {Q : Option Value → Heap → List Loc → Prop} {rc rs : Nat} {g : JFrame} {v : Option Value} (hlk : meth.locks = false) (hv : meth.sig.returnType = none → v = none) (hq : Q v T.heap locs) (hc : cells ≤ rc) (hl : slots ≤ rs)
    (k : ∀ fs, (∀ (f : JFrame) (acts : List Action), f.method = m → f.locked = none → f.entered = [] → (doReturn e (T.setTop f) acts v).1 = T.setFrames fs) → Steps p.tables e below (T.setTop g) (T.setFrames fs)) : own_Go p e below (own_P s Q rc rs) (T.setTop g) := by
  obtain ⟨fs, hr, hrun, hended, hW, hsame⟩ := X.leave (v := v) hv hlk
  exact ⟨_, _, k fs hr, hrun, hended, _, _, rfl, hq, ⟨_, rfl⟩, hW, hsame.mono hc hl⟩
theorem own_retV (X : Stand p l e R s m args below meth c T locs cells slots) (hx : p.tables.exec = Jvm.exec) {Q : Option Value → Heap → List Loc → Prop} {rc rs pc : Nat} {Ls : Array Slot} (hlk : meth.locks = false) (hret : meth.sig.returnType = none) (hd : decode c.code pc = .ok (.return_, 1)) (hc : cells ≤ rc) (hl : slots ≤ rs) (hq : Q none T.heap locs) : own_Go p e below (own_P s Q rc rs) (T.setTop (mkF m pc Ls [])) :=
  own_ret X hlk (fun _ => rfl) hq hc hl fun _ hr => X.returnOut hx hret hd hr
theorem own_retX (X : Stand p l e R s m args below meth c T locs cells slots) (hx : p.tables.exec = Jvm.exec) {Q : Option Value → Heap → List Loc → Prop} {rc rs pc : Nat} {Ls : Array Slot} {w : Value} {t : FieldType} {i : Instr} {rest : List Value} (hlk : meth.locks = false) (hret : meth.sig.returnType = some t) (hn : narrow t w = w)
    (hi : (i = .ireturn ∧ (t = .int ∨ t = .boolean ∨ t = .byte ∨ t = .char ∨ t = .short) ∧ ∃ z, w = .int z) ∨ (i = .lreturn ∧ t = .long ∧ ∃ z, w = .long z) ∨ (i = .dreturn ∧ t = .double ∧ ∃ z, w = .double z) ∨ (i = .freturn ∧ t = .float ∧ ∃ z, w = .float z) ∨ (i = .areturn ∧ t.isReference = true ∧ w.isRef = true))
    (hd : decode c.code pc = .ok (i, 1)) (hc : cells ≤ rc) (hl : slots ≤ rs) (hq : Q (some w) T.heap locs) : own_Go p e below (own_P s Q rc rs) (T.setTop (mkF m pc Ls (w :: rest))) :=
  own_ret X hlk (fun q => by rw [hret] at q; cases q) hq hc hl fun _ hr => retOut X hx hret hn hi hd hr
theorem own_body {y : MethodName} {bytes : ByteArray} {maxL : Nat} {ret : Option FieldType} {rm : Room} {ws : List Cond} {as' : Array Value} {Q : Option Value → Heap → List Loc → Prop} (hn : plainFor y = true)
    (b : ∀ (p : Program) (e : Env) (s : State) (m : MethodId) (below : List Frame) (meth : Method) (c : Code) (s₁ : State), p.tables.exec = Jvm.exec → c.code = bytes → c.maxLocals = maxL → s.vm.findClass y.cls = some m.cls → meth.name = y.name → meth.sig.returnType = ret → meth.locks = false → Z.Warmed39 s.vm → s₁.heap = h → Stand p l e rm s m as' below meth c s₁ [] 0 0 →
      own_Go p e below (own_P s Q rm.cells rm.slots) (s₁.setTop (entryFrame m as' maxL))) :
    MetFree l y (head1 (Cond.code y bytes maxL ret :: ws) rm) (fun a U => a = as' ∧ Z.Warmed39 U.vm ∧ U.heap = h) (fun _ _ _ _ _ => True) (fun _ U o U' => ∃ v L, o = .returned v ∧ Q v U'.heap L ∧ FrameEnd U o U' L rm.cells rm.slots) := by
  refine MetFree.of_bodySF hn hisR ?_
  intro p e s m args below meth c s₁ Bd hml0 hP hK
  obtain ⟨rfl, hZ, hh⟩ := hP
  exact b p e s m below meth c s₁ Bd.exec Bd.bytes hml0 (findClass_of_methodNamed Bd.named) (name_of_methodNamed Bd.named Bd.method).1 Bd.returns Bd.notSynchronized hZ (by rw [← hh, Bd.state]; rfl) (Stand.of_body Bd)
abbrev own_Met (l : Launch) (y : MethodName) (bytes : ByteArray) (maxL : Nat) (ret : Option FieldType) (ws : List Cond) (rm : Room) (Z : State) (h : Heap) (as' : Array Value) (Q : Option Value → Heap → List Loc → Prop) : Prop :=
  MetFree l y (head1 (Cond.code y bytes maxL ret :: ws) rm) (fun a U => a = as' ∧ Z.Warmed39 U.vm ∧ U.heap = h) (fun _ _ _ _ _ => True) (fun _ U o U' => ∃ v L, o = .returned v ∧ Q v U'.heap L ∧ FrameEnd U o U' L rm.cells rm.slots)
abbrev own_Came (p : Program) (l : Launch) (e : Env) (R : Room) (s : State) (m : MethodId) (args : Array Value) (below : List Frame) (meth : Method) (c : Code) (T : State) (locs : List Loc) (cells slots : Nat) (g : JFrame) (len : Nat) (rest : List Value) (Q : Option Value → Heap → List Loc → Prop) : Prop :=
  ∃ (T' : State) (v : Option Value) (L : List Loc), Stand p l e R s m args below meth c T' (locs ++ L) cells slots ∧ Q v T'.heap L ∧ ∀ t, Steps p.tables e below (T'.setTop { g with pc := g.pc + len, stack := v.toList ++ rest }) t → Steps p.tables e below (T.setTop g) t
theorem own_callS (X : Stand p l e R s m args below meth c T locs cells slots) (hx : p.tables.exec = Jvm.exec) (hZ : Z.Warmed39 s.vm) {own : String} {index : Nat} {y : MethodName} {bytes : ByteArray} {maxL : Nat} {ret : Option FieldType} {rm : Room} {as' : Array Value} {Q : Option Value → Heap → List Loc → Prop}
    (hown : s.vm.findClass own = some m.cls) (w1 : (Cond.methodLink own index y).before a0 Z = true) (w2 : (Cond.static y).before a0 Z = true) (w3 : (Cond.initialized y.cls).before a0 Z = true) (w4 : (Cond.code y bytes maxL ret).before a0 Z = true)
    (hy : y.cls ≠ "java/lang/invoke/MethodHandle" ∧ y.cls ≠ "java/lang/invoke/VarHandle") (hM : own_Met l y bytes maxL ret [] rm Z h as' Q) (eT : T.heap = h) {ps : List FieldType} {r : Option FieldType} (hd : parseMethodDescriptor y.desc = some ⟨ps, r⟩) {argsL rest : List Value} (hl : argsL.length = ps.length) (ha : argsL.toArray = as')
    {g : JFrame} (hg : g.method = m) (hsize : g.locals.size = c.maxLocals) (hstack : g.stack = argsL.reverse ++ rest) (hdg : decode c.code g.pc = .ok (.invokestatic index, 3)) {W : Nat} (hW : 2 * g.monitorRoom + (rest.map fun v => v.category).sum = W) (h1 : rm.frames + 1 ≤ R.frames) (h2 : W + (maxL + 11) + rm.locals ≤ R.locals) (h3 : cells + rm.cells ≤ R.cells) (h4 : slots + rm.slots ≤ R.slots) :
    own_Came p l e R s m args below meth c T locs (cells + rm.cells) (slots + rm.slots) g 3 rest Q := by
  obtain ⟨v, _, ⟨T', L', k', n'⟩, -, X', ⟨Lc, hQ, l1, y1, z1⟩, st⟩ := Jvm.LawKit.callS X hx (y := y) hown (mvT hZ w1) (mvT hZ w2) (mvT hZ w3) (mvT hZ w4) hy (backOf (W := W) hM hZ w4 w3 h1 h2) (g := g) hg hsize (argsL := argsL) (rest := rest) (lenOf hd hl) hstack (Nat.le_of_eq hW) hdg (fun _ _ => ⟨ha, eT, h3, h4⟩)
  dsimp only [Pt.U, Pt.locs, Pt.cells, Pt.slots] at X' l1 y1 z1 st hQ
  subst l1 y1 z1
  exact ⟨T', v, Lc, X', hQ, st⟩
theorem own_callN (X : Stand p l e R s m args below meth c T locs cells slots) (hx : p.tables.exec = Jvm.exec) (hZ : Z.Warmed39 s.vm) {own : String} {index : Nat} {y : MethodName} {bytes : ByteArray} {maxL : Nat} {rm : Room} {as' : Array Value} {Q : Option Value → Heap → List Loc → Prop} (hy1 : y.name = "<init>")
    (hown : s.vm.findClass own = some m.cls) (w1 : (Cond.methodLink own index y).before a0 Z = true) (w2 : (Cond.instanceMethod y).before a0 Z = true) (w3 : (Cond.initialized y.cls).before a0 Z = true) (w4 : (Cond.code y bytes maxL none).before a0 Z = true)
    (hy : y.cls ≠ "java/lang/invoke/MethodHandle" ∧ y.cls ≠ "java/lang/invoke/VarHandle") (hM : own_Met l y bytes maxL none [] rm Z h as' Q) (eT : T.heap = h) {ps : List FieldType} {r : Option FieldType} (hd : parseMethodDescriptor y.desc = some ⟨ps, r⟩) {a : Addr} {argsL rest : List Value} (hl : argsL.length = ps.length) (ha : (.ref a :: argsL).toArray = as')
    {g : JFrame} (hg : g.method = m) (hsize : g.locals.size = c.maxLocals) (hstack : g.stack = argsL.reverse ++ .ref a :: rest) (hdg : decode c.code g.pc = .ok (.invokespecial index, 3)) {W : Nat} (hW : 2 * g.monitorRoom + (rest.map fun v => v.category).sum = W) (h1 : rm.frames + 1 ≤ R.frames) (h2 : W + (maxL + 11) + rm.locals ≤ R.locals) (h3 : cells + rm.cells ≤ R.cells) (h4 : slots + rm.slots ≤ R.slots) :
    own_Came p l e R s m args below meth c T locs (cells + rm.cells) (slots + rm.slots) g 3 rest Q := by
  obtain ⟨v, _, ⟨T', L', k', n'⟩, -, X', ⟨Lc, hQ, l1, y1, z1⟩, st⟩ := X.specialBack hx (y := y) hy1 hown (mvT hZ w1) (mvT hZ w2) (mvT hZ w4) hy (backOf (W := W) hM hZ w4 w3 h1 h2) (g := g) hg hsize (Steps.refl _) (a := a) (argsL := argsL) (rest := rest) (lenOf hd hl) hstack (Nat.le_of_eq hW) hdg (fun _ _ => ⟨ha, eT, h3, h4⟩)
  dsimp only [Pt.U, Pt.locs, Pt.cells, Pt.slots] at X' l1 y1 z1 st hQ
  subst l1 y1 z1
  exact ⟨T', v, Lc, X', hQ, fun _ k => st.trans k⟩
theorem own_callV (X : Stand p l e R s m args below meth c T locs cells slots) (hx : p.tables.exec = Jvm.exec) (hZ : Z.Warmed39 s.vm) {own C : String} {index : Nat} {y z : MethodName} {bytes : ByteArray} {maxL : Nat} {ret : Option FieldType} {rm : Room} {as' : Array Value} {Q : Option Value → Heap → List Loc → Prop}
    (hown : s.vm.findClass own = some m.cls) (w1 : (Cond.methodLink own index y).before a0 Z = true) (w2 : (Cond.declares y).before a0 Z = true) (hnf : NotFace s y) (w5 : (Cond.selects C y z).before a0 Z = true) (w6 : (Cond.instanceMethod z).before a0 Z = true) (w3 : (Cond.initialized z.cls).before a0 Z = true) (w4 : (Cond.code z bytes maxL ret).before a0 Z = true)
    (hy : y.cls ≠ "java/lang/invoke/MethodHandle" ∧ y.cls ≠ "java/lang/invoke/VarHandle") (hM : own_Met l z bytes maxL ret [] rm Z h as' Q) (eT : T.heap = h) {a : Addr} (E : Exa Z h a C) {ps : List FieldType} {r : Option FieldType} (hd : parseMethodDescriptor y.desc = some ⟨ps, r⟩) {argsL rest : List Value} (hl : argsL.length = ps.length) (ha : (.ref a :: argsL).toArray = as')
    {g : JFrame} (hg : g.method = m) (hsize : g.locals.size = c.maxLocals) (hstack : g.stack = argsL.reverse ++ .ref a :: rest) (hdg : decode c.code g.pc = .ok (.invokevirtual index, 3)) {W : Nat} (hW : 2 * g.monitorRoom + (rest.map fun v => v.category).sum = W) (h1 : rm.frames + 1 ≤ R.frames) (h2 : W + (maxL + 11) + rm.locals ≤ R.locals) (h3 : cells + rm.cells ≤ R.cells) (h4 : slots + rm.slots ≤ R.slots) :
    own_Came p l e R s m args below meth c T locs (cells + rm.cells) (slots + rm.slots) g 3 rest Q := by
  obtain ⟨cq, kq, qa, qb, qc⟩ := isOf hZ eT E
  obtain ⟨v, _, ⟨T', L', k', n'⟩, -, X', ⟨Lc, hQ, l1, y1, z1⟩, st⟩ := X.virtualBack hx (y := y) (z := z) hown (mvT hZ w1) (mvT hZ w2) hnf (mvT hZ w5) (mvT hZ w6) hy (backOf (W := W) hM hZ w4 w3 h1 h2) qa qc (g := g) hg hsize (Steps.refl _) (argsL := argsL) (rest := rest) (lenOf hd hl) hstack (Nat.le_of_eq hW) hdg (fun _ _ => ⟨ha, eT, h3, h4⟩)
  dsimp only [Pt.U, Pt.locs, Pt.cells, Pt.slots] at X' l1 y1 z1 st hQ
  subst l1 y1 z1
  exact ⟨T', v, Lc, X', hQ, fun _ k => st.trans k⟩
theorem own_callU (X : Stand p l e R s m args below meth c T locs cells slots) (hx : p.tables.exec = Jvm.exec) (hZ : Z.Warmed39 s.vm) {own C owner : String} {index : Nat} {y z : MethodName} {bytes : ByteArray} {maxL : Nat} {ret : Option FieldType} {rm : Room} {as' : Array Value} {Q : Option Value → Heap → List Loc → Prop}
    (hown : s.vm.findClass own = some m.cls) (w1 : (Cond.methodLink own index y).before a0 Z = true) (w7 : (Cond.sameMethod y.cls owner y.name y.desc).before a0 Z = true) (w2 : (Cond.declares ⟨owner, y.name, y.desc⟩).before a0 Z = true) (w5 : (Cond.selects C y z).before a0 Z = true) (w6 : (Cond.instanceMethod z).before a0 Z = true) (w3 : (Cond.initialized z.cls).before a0 Z = true) (w4 : (Cond.code z bytes maxL ret).before a0 Z = true)
    (hy : owner ≠ "java/lang/invoke/MethodHandle" ∧ owner ≠ "java/lang/invoke/VarHandle") (hM : own_Met l z bytes maxL ret [] rm Z h as' Q) (eT : T.heap = h) {a : Addr} (E : Exa Z h a C) {ps : List FieldType} {r : Option FieldType} (hd : parseMethodDescriptor y.desc = some ⟨ps, r⟩) {argsL rest : List Value} (hl : argsL.length = ps.length) (ha : (.ref a :: argsL).toArray = as')
    {g : JFrame} (hg : g.method = m) (hsize : g.locals.size = c.maxLocals) (hstack : g.stack = argsL.reverse ++ .ref a :: rest) (hdg : decode c.code g.pc = .ok (.invokevirtual index, 3)) {W : Nat} (hW : 2 * g.monitorRoom + (rest.map fun v => v.category).sum = W) (h1 : rm.frames + 1 ≤ R.frames) (h2 : W + (maxL + 11) + rm.locals ≤ R.locals) (h3 : cells + rm.cells ≤ R.cells) (h4 : slots + rm.slots ≤ R.slots) :
    own_Came p l e R s m args below meth c T locs (cells + rm.cells) (slots + rm.slots) g 3 rest Q := by
  obtain ⟨cq, kq, qa, qb, qc⟩ := isOf hZ eT E
  obtain ⟨v, _, ⟨T', L', k', n'⟩, -, X', ⟨Lc, hQ, l1, y1, z1⟩, st⟩ := X.virtualBackUp hx (x := y) (y := z) hown (mvT hZ w1) (mvT hZ w7) (mvT hZ w2) hy (mvT hZ w5) (mvT hZ w6) (backOf (W := W) hM hZ w4 w3 h1 h2) qa qc (g := g) hg hsize (Steps.refl _) (argsL := argsL) (rest := rest) (lenOf hd hl) hstack (Nat.le_of_eq hW) hdg (fun _ _ => ⟨ha, eT, h3, h4⟩)
  dsimp only [Pt.U, Pt.locs, Pt.cells, Pt.slots] at X' l1 y1 z1 st hQ
  subst l1 y1 z1
  exact ⟨T', v, Lc, X', hQ, fun _ k => st.trans k⟩
theorem own_callI (X : Stand p l e R s m args below meth c T locs cells slots) (hx : p.tables.exec = Jvm.exec) (hZ : Z.Warmed39 s.vm) {own C : String} {index count : Nat} {y z : MethodName} {bytes : ByteArray} {maxL : Nat} {ret : Option FieldType} {rm : Room} {as' : Array Value} {Q : Option Value → Heap → List Loc → Prop}
    (hown : s.vm.findClass own = some m.cls) (w1 : (Cond.methodLink own index y).before a0 Z = true) (w2 : (Cond.declares y).before a0 Z = true) (w7 : (Cond.interfaceMethod y.cls y.cls y.name y.desc).before args s = true) (w5 : (Cond.selects C y z).before a0 Z = true) (w6 : (Cond.instanceMethod z).before a0 Z = true) (w8 : (Cond.publicMethod z).before a0 Z = true) (w9 : (Cond.unhidden C y.name y.desc).before a0 Z = true) (w10 : (Cond.castable C y.cls).before a0 Z = true) (w3 : (Cond.initialized z.cls).before a0 Z = true) (w4 : (Cond.code z bytes maxL ret).before a0 Z = true)
    (hy : y.cls ≠ "java/lang/invoke/MethodHandle" ∧ y.cls ≠ "java/lang/invoke/VarHandle") (hM : own_Met l z bytes maxL ret [] rm Z h as' Q) (eT : T.heap = h) {a : Addr} (E : Exa Z h a C) {ps : List FieldType} {r : Option FieldType} (hd : parseMethodDescriptor y.desc = some ⟨ps, r⟩) {argsL rest : List Value} (hl : argsL.length = ps.length) (ha : (.ref a :: argsL).toArray = as')
    {g : JFrame} (hg : g.method = m) (hsize : g.locals.size = c.maxLocals) (hstack : g.stack = argsL.reverse ++ .ref a :: rest) (hdg : decode c.code g.pc = .ok (.invokeinterface index count, 5)) {W : Nat} (hW : 2 * g.monitorRoom + (rest.map fun v => v.category).sum = W) (h1 : rm.frames + 1 ≤ R.frames) (h2 : W + (maxL + 11) + rm.locals ≤ R.locals) (h3 : cells + rm.cells ≤ R.cells) (h4 : slots + rm.slots ≤ R.slots) :
    own_Came p l e R s m args below meth c T locs (cells + rm.cells) (slots + rm.slots) g 5 rest Q := by
  obtain ⟨cq, kq, qa, qb, qc⟩ := isOf hZ eT E
  obtain ⟨v, _, ⟨T', L', k', n'⟩, -, X', ⟨Lc, hQ, l1, y1, z1⟩, st⟩ := X.interfaceBack hx (xi := y) (y := z) hown (mvT hZ w1) (mvT hZ w2) w7 (mvT hZ w5) (mvT hZ w6) (mvT hZ w8) (mvT hZ w9) (mvT hZ w10) hy (backOf (W := W) hM hZ w4 w3 h1 h2) qa qb qc (g := g) hg hsize (Steps.refl _) (argsL := argsL) (rest := rest) (lenOf hd hl) hstack (Nat.le_of_eq hW) hdg (fun _ _ => ⟨ha, eT, h3, h4⟩)
  dsimp only [Pt.U, Pt.locs, Pt.cells, Pt.slots] at X' l1 y1 z1 st hQ
  subst l1 y1 z1
  exact ⟨T', v, Lc, X', hQ, fun _ k => st.trans k⟩
theorem own_selP (hZ : Z.Warmed39 s.vm) {y : MethodName} {n : Nat} (w1 : (Cond.instantiable y.cls n).before a0 Z = true) (w2 : (Cond.privateMethod y).before a0 Z = true) (w3 : (Cond.instanceMethod y).before a0 Z = true) (hy : y.cls ≠ "java/lang/invoke/MethodHandle" ∧ y.cls ≠ "java/lang/invoke/VarHandle") : (Cond.selects y.cls y y).before args s = true := by
  obtain ⟨c, k, h1, h2, -, h3, -⟩ := Cond.instantiable_spec (mvT hZ w1 (args := args))
  exact Jvm.Stand.selects_self_of_private h1 h2 (by simp at h3; exact h3.1) (Cond.privateMethod_at (mvP hZ w2 (args := args))) (mvT hZ w3) hy
theorem own_callP (X : Stand p l e R s m args below meth c T locs cells slots) (hx : p.tables.exec = Jvm.exec) (hZ : Z.Warmed39 s.vm) {own : String} {index : Nat} {y : MethodName} {bytes : ByteArray} {maxL : Nat} {ret : Option FieldType} {rm : Room} {as' : Array Value} {Q : Option Value → Heap → List Loc → Prop}
    (hown : s.vm.findClass own = some m.cls) (w1 : (Cond.methodLink own index y).before a0 Z = true) (w6 : (Cond.instanceMethod y).before a0 Z = true) (w5 : (Cond.selects y.cls y y).before args s = true) (w7 : (Cond.privateMethod y).before a0 Z = true) (w3 : (Cond.initialized y.cls).before a0 Z = true) (w4 : (Cond.code y bytes maxL ret).before a0 Z = true)
    (hy : y.cls ≠ "java/lang/invoke/MethodHandle" ∧ y.cls ≠ "java/lang/invoke/VarHandle") (hM : own_Met l y bytes maxL ret [] rm Z h as' Q) (eT : T.heap = h) {a : Addr} {C : String} (E : Exa Z h a C) {ps : List FieldType} {r : Option FieldType} (hd : parseMethodDescriptor y.desc = some ⟨ps, r⟩) {argsL rest : List Value} (hl : argsL.length = ps.length) (ha : (.ref a :: argsL).toArray = as')
    {g : JFrame} (hg : g.method = m) (hsize : g.locals.size = c.maxLocals) (hstack : g.stack = argsL.reverse ++ .ref a :: rest) (hdg : decode c.code g.pc = .ok (.invokevirtual index, 3)) {W : Nat} (hW : 2 * g.monitorRoom + (rest.map fun v => v.category).sum = W) (h1 : rm.frames + 1 ≤ R.frames) (h2 : W + (maxL + 11) + rm.locals ≤ R.locals) (h3 : cells + rm.cells ≤ R.cells) (h4 : slots + rm.slots ≤ R.slots) :
    own_Came p l e R s m args below meth c T locs (cells + rm.cells) (slots + rm.slots) g 3 rest Q := by
  obtain ⟨cq, q, q'⟩ := E.cell
  obtain ⟨v, _, ⟨T', L', k', n'⟩, -, X', ⟨Lc, hQ, l1, y1, z1⟩, st⟩ := X.privateBack hx (y := y) hown (mvT hZ w1) (mvT hZ w6) w5 (Cond.privateMethod_at (mvP hZ w7 (args := #[]))) (mvT hZ w4) hy (backOf (W := W) hM hZ w4 w3 h1 h2) (g := g) hg hsize (Steps.refl _) (a := a) (by rw [eT]; exact q) q' (argsL := argsL) (rest := rest) (lenOf hd hl) hstack (Nat.le_of_eq hW) hdg (fun _ _ => ⟨ha, eT, h3, h4⟩)
  dsimp only [Pt.U, Pt.locs, Pt.cells, Pt.slots] at X' l1 y1 z1 st hQ
  subst l1 y1 z1
  exact ⟨T', v, Lc, X', hQ, fun _ k => st.trans k⟩
theorem own_nl {n0 : Nat} {Z : State} (O : Old Z n0 h) : n0 ≤ h.size := O.1 ▸ O.2.1
theorem own_tt {x : Bool} (h : x = true) : x = true := h
end Own
section Own2
variable {args : Array Value} {Z : State} {a : Addr} {O f d : String} {k : Int32} {t : Term} {v : Value} {ty : FieldType}
theorem own_fldI (ht : t.eval args Z none [] Z = some (.ref a)) (h : (Cond.eq (.field t O f d) (.int k)).value args Z none Z [] = some true) : Fld Z Z.heap a O f d (.int k) := by
  obtain ⟨x, y, ea, eb, -, k2⟩ := cmp_v (Or.inl h)
  obtain rfl : y = .int k := (Option.some.inj (eb.symm.trans (Term.int_eval k)))
  obtain ⟨z, rfl⟩ := k2
  obtain rfl : z = k := by simpa [Cond.value, ea, eb] using h
  rw [fld_at ht] at ea
  exact Fld.start ea
theorem own_len {c : Cell} (ht : t.eval args Z none [] Z = some (.ref a)) (A : Arr Z Z.heap a c ty) (h : (Cond.eq (.length t) (.int k)).value args Z none Z [] = some true) : c.slots.size < 2 ^ 31 ∧ c.slots.size.toInt32 = k := by
  obtain ⟨x, y, ea, eb, -, k2⟩ := cmp_v (Or.inl h)
  obtain rfl : y = .int k := (Option.some.inj (eb.symm.trans (Term.int_eval k)))
  obtain ⟨z, rfl⟩ := k2
  obtain rfl : z = k := by simpa [Cond.value, ea, eb] using h
  have hc := Arr.fin (State.Warmed39.refl Z).alike A
  simp only [Term.eval, ht, Option.bind_eq_bind, Option.bind_some, hc] at ea
  split at ea
  · rename_i hl
    exact ⟨by simpa using hl, by simpa using ea⟩
  · cases ea
theorem own_lenN {n : Nat} {k : Int32} (h : n < 2 ^ 31) (e : n.toInt32 = k) : n = k.toNatClampNeg := by
  subst e
  have := len_toInt h
  simp [Int32.toNatClampNeg, this]
theorem own_elem {c : Cell} {i : Int32} (ht : t.eval args Z none [] Z = some (.ref a)) (A : Arr Z Z.heap a c ty) (h : (Cond.eq (.elem t (.int i)) (.int k)).value args Z none Z [] = some true) : c.slots[i.toNatClampNeg]? = some (.int k) := by
  obtain ⟨x, y, ea, eb, -, k2⟩ := cmp_v (Or.inl h)
  obtain rfl : y = .int k := (Option.some.inj (eb.symm.trans (Term.int_eval k)))
  obtain ⟨z, rfl⟩ := k2
  obtain rfl : z = k := by simpa [Cond.value, ea, eb] using h
  exact (elem_in ea ht (Term.int_eval i) A.1).2
theorem own_bb (x : Int32) : nar .byte x.toInt8.toInt32 = x.toInt8.toInt32 := by simp [nar]
theorem own_narG (h : v.isRef = true) : narrow ty v = v := by cases v <;> first | rfl | (cases ty <;> rfl) | simp [Value.isRef] at h
theorem own_fitG (h : v.isRef = true) (ht : ty.isReference = true := by rfl) : fits ty v = true := by cases v <;> cases ty <;> simp_all [Value.isRef, fits, FieldType.isReference]
theorem own_narC (x : Int32) : narrow .char (.int x.toUInt32.toUInt16.toUInt32.toInt32) = .int x.toUInt32.toUInt16.toUInt32.toInt32 := by
  have : x.toUInt32.toUInt16.toUInt32.toInt32.toUInt32.toUInt16.toUInt32.toInt32 = x.toUInt32.toUInt16.toUInt32.toInt32 := by
    apply Int32.toBitVec_inj.1
    apply BitVec.eq_of_toNat_eq
    simp
  show Value.int _ = _
  exact congrArg Value.int this
theorem own_narB (x : Int32) : narrow .byte (.int x.toInt8.toInt32) = .int x.toInt8.toInt32 := by
  have : x.toInt8.toInt32.toInt8.toInt32 = x.toInt8.toInt32 := by simp
  show Value.int _ = _
  exact congrArg Value.int this
end Own2
section OwnW
variable {p : Program} {l : Launch} {e : Env} {R : Room} {s : State} {m : MethodId} {args : Array Value} {below : List Frame} {meth : Method} {c : Code} {T : State} {locs : List Loc} {cells slots : Nat} {Z : State} {a0 : Array Value} {h : Heap} {vm₀ : Vm} {k₀ : Nat}
def own_PW (s : State) (Q : Option Value → Heap → List Loc → Prop) (rc rs : Nat) (o : Outcome) (U : State) : Prop := ∃ v L, o = .returned v ∧ Q v U.heap L ∧ ReturnedEndW s o U L rc rs
theorem own_retW (X : Stand p l e R (s.setVm vm₀) m args below meth c T locs cells slots) (hS : s.Since vm₀ k₀) (hk : k₀ ≤ h.size) (eT : T.heap = h) {Q : Option Value → Heap → List Loc → Prop} {rc rs : Nat} {g : JFrame} {v : Option Value} (hlk : meth.locks = false) (hv : meth.sig.returnType = none → v = none) (hq : Q v T.heap locs) (hc : cells ≤ rc) (hl : slots ≤ rs)
    (k : ∀ fs, (∀ (f : JFrame) (acts : List Action), f.method = m → f.locked = none → f.entered = [] → (doReturn e (T.setTop f) acts v).1 = T.setFrames fs) → Steps p.tables e below (T.setTop g) (T.setFrames fs)) : own_Go p e below (own_PW s Q rc rs) (T.setTop g) := by
  obtain ⟨fs, hr, hrun, hended, hR⟩ := X.leaveW hS (by rw [eT]; exact hk) (v := v) hv hlk
  exact ⟨_, _, k fs hr, hrun, hended, _, _, rfl, hq, hR.1, hR.2.1, hR.2.2.1, hR.2.2.2.mono hc hl⟩
theorem own_retVW (X : Stand p l e R (s.setVm vm₀) m args below meth c T locs cells slots) (hS : s.Since vm₀ k₀) (hk : k₀ ≤ h.size) (eT : T.heap = h) (hx : p.tables.exec = Jvm.exec) {Q : Option Value → Heap → List Loc → Prop} {rc rs pc : Nat} {Ls : Array Slot} (hlk : meth.locks = false) (hret : meth.sig.returnType = none) (hd : decode c.code pc = .ok (.return_, 1)) (hc : cells ≤ rc) (hl : slots ≤ rs) (hq : Q none T.heap locs) : own_Go p e below (own_PW s Q rc rs) (T.setTop (mkF m pc Ls [])) :=
  own_retW X hS hk eT hlk (fun _ => rfl) hq hc hl fun _ hr => X.returnOut hx hret hd hr
theorem own_retXW (X : Stand p l e R (s.setVm vm₀) m args below meth c T locs cells slots) (hS : s.Since vm₀ k₀) (hk : k₀ ≤ h.size) (eT : T.heap = h) (hx : p.tables.exec = Jvm.exec) {Q : Option Value → Heap → List Loc → Prop} {rc rs pc : Nat} {Ls : Array Slot} {w : Value} {t : FieldType} {i : Instr} {rest : List Value} (hlk : meth.locks = false) (hret : meth.sig.returnType = some t) (hn : narrow t w = w)
    (hi : (i = .ireturn ∧ (t = .int ∨ t = .boolean ∨ t = .byte ∨ t = .char ∨ t = .short) ∧ ∃ z, w = .int z) ∨ (i = .lreturn ∧ t = .long ∧ ∃ z, w = .long z) ∨ (i = .dreturn ∧ t = .double ∧ ∃ z, w = .double z) ∨ (i = .freturn ∧ t = .float ∧ ∃ z, w = .float z) ∨ (i = .areturn ∧ t.isReference = true ∧ w.isRef = true))
    (hd : decode c.code pc = .ok (i, 1)) (hc : cells ≤ rc) (hl : slots ≤ rs) (hq : Q (some w) T.heap locs) : own_Go p e below (own_PW s Q rc rs) (T.setTop (mkF m pc Ls (w :: rest))) :=
  own_retW X hS hk eT hlk (fun q => by rw [hret] at q; cases q) hq hc hl fun _ hr => retOut X hx hret hn hi hd hr
abbrev own_MetW (l : Launch) (y : MethodName) (bytes : ByteArray) (maxL : Nat) (ret : Option FieldType) (ws : List Cond) (rm : Room) (Z : State) (h : Heap) (as' : Array Value) (Q : Option Value → Heap → List Loc → Prop) : Prop :=
  MetFree l y (head1 (Cond.code y bytes maxL ret :: ws) rm) (fun a U => a = as' ∧ Z.Warmed39 U.vm ∧ U.heap = h) (fun _ _ _ _ _ => True) (fun _ U o U' => ∃ v L, o = .returned v ∧ Q v U'.heap L ∧ ReturnedEndW U o U' L rm.cells rm.slots)
theorem own_bodyW {y : MethodName} {bytes : ByteArray} {maxL : Nat} {ret : Option FieldType} {rm : Room} {ws : List Cond} {as' : Array Value} {Q : Option Value → Heap → List Loc → Prop} (hn : plainFor y = true)
    (b : ∀ (p : Program) (e : Env) (s : State) (m : MethodId) (below : List Frame) (meth : Method) (c : Code) (s₁ : State), p.tables.exec = Jvm.exec → c.code = bytes → c.maxLocals = maxL → (s.setVm s.vm).vm.findClass y.cls = some m.cls → meth.name = y.name → meth.sig.returnType = ret → meth.locks = false → Z.Warmed39 (s.setVm s.vm).vm → s₁.heap = h → Stand p l e rm (s.setVm s.vm) m as' below meth c s₁ [] 0 0 → s.Since s.vm 0 →
      own_Go p e below (own_PW s Q rm.cells rm.slots) (s₁.setTop (entryFrame m as' maxL))) :
    own_MetW l y bytes maxL ret ws rm Z h as' Q := by
  refine MetFree.of_bodySF hn hisR ?_
  intro p e s m args below meth c s₁ Bd hml0 hP hK
  obtain ⟨rfl, hZ, hh⟩ := hP
  exact b p e s m below meth c s₁ Bd.exec Bd.bytes hml0 (findClass_of_methodNamed Bd.named) (name_of_methodNamed Bd.named Bd.method).1 Bd.returns Bd.notSynchronized hZ (by rw [← hh, Bd.state]; rfl) (Stand.of_body Bd) ((State.WarmedH.refl s).since 0)
abbrev own_CameW (p : Program) (l : Launch) (e : Env) (R : Room) (s : State) (m : MethodId) (args : Array Value) (below : List Frame) (meth : Method) (c : Code) (T : State) (locs : List Loc) (cells slots : Nat) (Z : State) (own : String) (g : JFrame) (len : Nat) (rest : List Value) (Q : Option Value → Heap → List Loc → Prop) : Prop :=
  ∃ (T' : State) (v : Option Value) (L : List Loc), Stand p l e R (s.setVm T'.vm) m args below meth c T' (locs ++ L) cells slots ∧ s.Since T'.vm T'.heap.size ∧ Z.Warmed39 (s.setVm T'.vm).vm ∧ (s.setVm T'.vm).vm.findClass own = some m.cls ∧ Q v T'.heap L ∧ ∀ t, Steps p.tables e below (T'.setTop { g with pc := g.pc + len, stack := v.toList ++ rest }) t → Steps p.tables e below (T.setTop g) t
theorem own_callSW (X : Stand p l e R (s.setVm vm₀) m args below meth c T locs cells slots) (hx : p.tables.exec = Jvm.exec) (hZ : Z.Warmed39 (s.setVm vm₀).vm) (hS : s.Since vm₀ k₀) (hk : k₀ ≤ h.size) {own : String} {index : Nat} {y : MethodName} {bytes : ByteArray} {maxL : Nat} {ret : Option FieldType} {rm : Room} {as' : Array Value} {Q : Option Value → Heap → List Loc → Prop}
    (hown : (s.setVm vm₀).vm.findClass own = some m.cls) (w1 : (Cond.methodLink own index y).before a0 Z = true) (w2 : (Cond.static y).before a0 Z = true) (w3 : (Cond.initialized y.cls).before a0 Z = true) (w4 : (Cond.code y bytes maxL ret).before a0 Z = true)
    (hy : y.cls ≠ "java/lang/invoke/MethodHandle" ∧ y.cls ≠ "java/lang/invoke/VarHandle") (hM : own_MetW l y bytes maxL ret [] rm Z h as' Q) (eT : T.heap = h) {ps : List FieldType} {r : Option FieldType} (hd : parseMethodDescriptor y.desc = some ⟨ps, r⟩) {argsL rest : List Value} (hl : argsL.length = ps.length) (ha : argsL.toArray = as')
    {g : JFrame} (hg : g.method = m) (hsize : g.locals.size = c.maxLocals) (hstack : g.stack = argsL.reverse ++ rest) (hdg : decode c.code g.pc = .ok (.invokestatic index, 3)) {W : Nat} (hW : 2 * g.monitorRoom + (rest.map fun v => v.category).sum = W) (h1 : rm.frames + 1 ≤ R.frames) (h2 : W + (maxL + 11) + rm.locals ≤ R.locals) (h3 : cells + rm.cells ≤ R.cells) (h4 : slots + rm.slots ≤ R.slots) :
    own_CameW p l e R s m args below meth c T locs (cells + rm.cells) (slots + rm.slots) Z own g 3 rest Q := by
  obtain ⟨v, _, ⟨T', L', k', n'⟩, -, X', hS', hgr, ⟨Lc, hQ, l1, y1, z1⟩, st⟩ := callSS X hx (y := y) hown (mvT hZ w1) (mvT hZ w2) (mvT hZ w3) (mvT hZ w4) hy (backOfS (W := W) hM hZ w4 w3 h1 h2) (g := g) hg hsize (argsL := argsL) (rest := rest) (lenOf hd hl) hstack (Nat.le_of_eq hW) hdg (fun _ _ => ⟨ha, eT, h3, h4⟩)
  dsimp only [Pt.U, Pt.locs, Pt.cells, Pt.slots] at X' hS' hgr l1 y1 z1 st hQ
  subst l1 y1 z1
  obtain ⟨r1, r2, r3, r4⟩ := rebS hS (by rw [eT]; exact hk) X' hS' hgr hZ hown
  exact ⟨T', v, Lc, r1, r2, r3, r4, hQ, fun _ k => st.trans k⟩
theorem own_callNW (X : Stand p l e R (s.setVm vm₀) m args below meth c T locs cells slots) (hx : p.tables.exec = Jvm.exec) (hZ : Z.Warmed39 (s.setVm vm₀).vm) (hS : s.Since vm₀ k₀) (hk : k₀ ≤ h.size) {own : String} {index : Nat} {y : MethodName} {bytes : ByteArray} {maxL : Nat} {rm : Room} {as' : Array Value} {Q : Option Value → Heap → List Loc → Prop} (hy1 : y.name = "<init>")
    (hown : (s.setVm vm₀).vm.findClass own = some m.cls) (w1 : (Cond.methodLink own index y).before a0 Z = true) (w2 : (Cond.instanceMethod y).before a0 Z = true) (w3 : (Cond.initialized y.cls).before a0 Z = true) (w4 : (Cond.code y bytes maxL none).before a0 Z = true)
    (hy : y.cls ≠ "java/lang/invoke/MethodHandle" ∧ y.cls ≠ "java/lang/invoke/VarHandle") (hM : own_MetW l y bytes maxL none [] rm Z h as' Q) (eT : T.heap = h) {ps : List FieldType} {r : Option FieldType} (hd : parseMethodDescriptor y.desc = some ⟨ps, r⟩) {a : Addr} {argsL rest : List Value} (hl : argsL.length = ps.length) (ha : (.ref a :: argsL).toArray = as')
    {g : JFrame} (hg : g.method = m) (hsize : g.locals.size = c.maxLocals) (hstack : g.stack = argsL.reverse ++ .ref a :: rest) (hdg : decode c.code g.pc = .ok (.invokespecial index, 3)) {W : Nat} (hW : 2 * g.monitorRoom + (rest.map fun v => v.category).sum = W) (h1 : rm.frames + 1 ≤ R.frames) (h2 : W + (maxL + 11) + rm.locals ≤ R.locals) (h3 : cells + rm.cells ≤ R.cells) (h4 : slots + rm.slots ≤ R.slots) :
    own_CameW p l e R s m args below meth c T locs (cells + rm.cells) (slots + rm.slots) Z own g 3 rest Q := by
  obtain ⟨v, _, ⟨T', L', k', n'⟩, -, X', hS', hgr, ⟨Lc, hQ, l1, y1, z1⟩, st⟩ := X.specialBackS hx (y := y) hy1 hown (mvT hZ w1) (mvT hZ w2) (mvT hZ w4) hy (backOfS (W := W) hM hZ w4 w3 h1 h2) (g := g) hg hsize (Steps.refl _) (a := a) (argsL := argsL) (rest := rest) (lenOf hd hl) hstack (Nat.le_of_eq hW) hdg (fun _ _ => ⟨ha, eT, h3, h4⟩)
  dsimp only [Pt.U, Pt.locs, Pt.cells, Pt.slots] at X' hS' hgr l1 y1 z1 st hQ
  subst l1 y1 z1
  obtain ⟨r1, r2, r3, r4⟩ := rebS hS (by rw [eT]; exact hk) X' hS' hgr hZ hown
  exact ⟨T', v, Lc, r1, r2, r3, r4, hQ, fun _ k => st.trans k⟩
theorem own_callVW (X : Stand p l e R (s.setVm vm₀) m args below meth c T locs cells slots) (hx : p.tables.exec = Jvm.exec) (hZ : Z.Warmed39 (s.setVm vm₀).vm) (hS : s.Since vm₀ k₀) (hk : k₀ ≤ h.size) {own C : String} {index : Nat} {y z : MethodName} {bytes : ByteArray} {maxL : Nat} {ret : Option FieldType} {rm : Room} {as' : Array Value} {Q : Option Value → Heap → List Loc → Prop}
    (hown : (s.setVm vm₀).vm.findClass own = some m.cls) (w1 : (Cond.methodLink own index y).before a0 Z = true) (w2 : (Cond.declares y).before a0 Z = true) (hnf : NotFace (s.setVm vm₀) y) (w5 : (Cond.selects C y z).before a0 Z = true) (w6 : (Cond.instanceMethod z).before a0 Z = true) (w3 : (Cond.initialized z.cls).before a0 Z = true) (w4 : (Cond.code z bytes maxL ret).before a0 Z = true)
    (hy : y.cls ≠ "java/lang/invoke/MethodHandle" ∧ y.cls ≠ "java/lang/invoke/VarHandle") (hM : own_MetW l z bytes maxL ret [] rm Z h as' Q) (eT : T.heap = h) {a : Addr} (E : Exa Z h a C) {ps : List FieldType} {r : Option FieldType} (hd : parseMethodDescriptor y.desc = some ⟨ps, r⟩) {argsL rest : List Value} (hl : argsL.length = ps.length) (ha : (.ref a :: argsL).toArray = as')
    {g : JFrame} (hg : g.method = m) (hsize : g.locals.size = c.maxLocals) (hstack : g.stack = argsL.reverse ++ .ref a :: rest) (hdg : decode c.code g.pc = .ok (.invokevirtual index, 3)) {W : Nat} (hW : 2 * g.monitorRoom + (rest.map fun v => v.category).sum = W) (h1 : rm.frames + 1 ≤ R.frames) (h2 : W + (maxL + 11) + rm.locals ≤ R.locals) (h3 : cells + rm.cells ≤ R.cells) (h4 : slots + rm.slots ≤ R.slots) :
    own_CameW p l e R s m args below meth c T locs (cells + rm.cells) (slots + rm.slots) Z own g 3 rest Q := by
  obtain ⟨cq, kq, qa, qb, qc⟩ := isOf hZ eT E
  obtain ⟨v, _, ⟨T', L', k', n'⟩, -, X', hS', hgr, ⟨Lc, hQ, l1, y1, z1⟩, st⟩ := X.virtualBackS hx (y := y) (z := z) hown (mvT hZ w1) (mvT hZ w2) hnf (mvT hZ w5) (mvT hZ w6) hy (backOfS (W := W) hM hZ w4 w3 h1 h2) qa qc (g := g) hg hsize (Steps.refl _) (argsL := argsL) (rest := rest) (lenOf hd hl) hstack (Nat.le_of_eq hW) hdg (fun _ _ => ⟨ha, eT, h3, h4⟩)
  dsimp only [Pt.U, Pt.locs, Pt.cells, Pt.slots] at X' hS' hgr l1 y1 z1 st hQ
  subst l1 y1 z1
  obtain ⟨r1, r2, r3, r4⟩ := rebS hS (by rw [eT]; exact hk) X' hS' hgr hZ hown
  exact ⟨T', v, Lc, r1, r2, r3, r4, hQ, fun _ k => st.trans k⟩
theorem own_callUW (X : Stand p l e R (s.setVm vm₀) m args below meth c T locs cells slots) (hx : p.tables.exec = Jvm.exec) (hZ : Z.Warmed39 (s.setVm vm₀).vm) (hS : s.Since vm₀ k₀) (hk : k₀ ≤ h.size) {own C owner : String} {index : Nat} {y z : MethodName} {bytes : ByteArray} {maxL : Nat} {ret : Option FieldType} {rm : Room} {as' : Array Value} {Q : Option Value → Heap → List Loc → Prop}
    (hown : (s.setVm vm₀).vm.findClass own = some m.cls) (w1 : (Cond.methodLink own index y).before a0 Z = true) (w7 : (Cond.sameMethod y.cls owner y.name y.desc).before a0 Z = true) (w2 : (Cond.declares ⟨owner, y.name, y.desc⟩).before a0 Z = true) (w5 : (Cond.selects C y z).before a0 Z = true) (w6 : (Cond.instanceMethod z).before a0 Z = true) (w3 : (Cond.initialized z.cls).before a0 Z = true) (w4 : (Cond.code z bytes maxL ret).before a0 Z = true)
    (hy : owner ≠ "java/lang/invoke/MethodHandle" ∧ owner ≠ "java/lang/invoke/VarHandle") (hM : own_MetW l z bytes maxL ret [] rm Z h as' Q) (eT : T.heap = h) {a : Addr} (E : Exa Z h a C) {ps : List FieldType} {r : Option FieldType} (hd : parseMethodDescriptor y.desc = some ⟨ps, r⟩) {argsL rest : List Value} (hl : argsL.length = ps.length) (ha : (.ref a :: argsL).toArray = as')
    {g : JFrame} (hg : g.method = m) (hsize : g.locals.size = c.maxLocals) (hstack : g.stack = argsL.reverse ++ .ref a :: rest) (hdg : decode c.code g.pc = .ok (.invokevirtual index, 3)) {W : Nat} (hW : 2 * g.monitorRoom + (rest.map fun v => v.category).sum = W) (h1 : rm.frames + 1 ≤ R.frames) (h2 : W + (maxL + 11) + rm.locals ≤ R.locals) (h3 : cells + rm.cells ≤ R.cells) (h4 : slots + rm.slots ≤ R.slots) :
    own_CameW p l e R s m args below meth c T locs (cells + rm.cells) (slots + rm.slots) Z own g 3 rest Q := by
  obtain ⟨cq, kq, qa, qb, qc⟩ := isOf hZ eT E
  obtain ⟨v, _, ⟨T', L', k', n'⟩, -, X', hS', hgr, ⟨Lc, hQ, l1, y1, z1⟩, st⟩ := virtualBackUpS X hx (x := y) (y := z) hown (mvT hZ w1) (mvT hZ w7) (mvT hZ w2) hy (mvT hZ w5) (mvT hZ w6) (backOfS (W := W) hM hZ w4 w3 h1 h2) qa qc (g := g) hg hsize (Steps.refl _) (argsL := argsL) (rest := rest) (lenOf hd hl) hstack (Nat.le_of_eq hW) hdg (fun _ _ => ⟨ha, eT, h3, h4⟩)
  dsimp only [Pt.U, Pt.locs, Pt.cells, Pt.slots] at X' hS' hgr l1 y1 z1 st hQ
  subst l1 y1 z1
  obtain ⟨r1, r2, r3, r4⟩ := rebS hS (by rw [eT]; exact hk) X' hS' hgr hZ hown
  exact ⟨T', v, Lc, r1, r2, r3, r4, hQ, fun _ k => st.trans k⟩
theorem own_callIW (X : Stand p l e R (s.setVm vm₀) m args below meth c T locs cells slots) (hx : p.tables.exec = Jvm.exec) (hZ : Z.Warmed39 (s.setVm vm₀).vm) (hS : s.Since vm₀ k₀) (hk : k₀ ≤ h.size) {own C : String} {index count : Nat} {y z : MethodName} {bytes : ByteArray} {maxL : Nat} {ret : Option FieldType} {rm : Room} {as' : Array Value} {Q : Option Value → Heap → List Loc → Prop}
    (hown : (s.setVm vm₀).vm.findClass own = some m.cls) (w1 : (Cond.methodLink own index y).before a0 Z = true) (w2 : (Cond.declares y).before a0 Z = true) (w7 : (Cond.interfaceMethod y.cls y.cls y.name y.desc).before args (s.setVm vm₀) = true) (w5 : (Cond.selects C y z).before a0 Z = true) (w6 : (Cond.instanceMethod z).before a0 Z = true) (w8 : (Cond.publicMethod z).before a0 Z = true) (w9 : (Cond.unhidden C y.name y.desc).before a0 Z = true) (w10 : (Cond.castable C y.cls).before a0 Z = true) (w3 : (Cond.initialized z.cls).before a0 Z = true) (w4 : (Cond.code z bytes maxL ret).before a0 Z = true)
    (hy : y.cls ≠ "java/lang/invoke/MethodHandle" ∧ y.cls ≠ "java/lang/invoke/VarHandle") (hM : own_MetW l z bytes maxL ret [] rm Z h as' Q) (eT : T.heap = h) {a : Addr} (E : Exa Z h a C) {ps : List FieldType} {r : Option FieldType} (hd : parseMethodDescriptor y.desc = some ⟨ps, r⟩) {argsL rest : List Value} (hl : argsL.length = ps.length) (ha : (.ref a :: argsL).toArray = as')
    {g : JFrame} (hg : g.method = m) (hsize : g.locals.size = c.maxLocals) (hstack : g.stack = argsL.reverse ++ .ref a :: rest) (hdg : decode c.code g.pc = .ok (.invokeinterface index count, 5)) {W : Nat} (hW : 2 * g.monitorRoom + (rest.map fun v => v.category).sum = W) (h1 : rm.frames + 1 ≤ R.frames) (h2 : W + (maxL + 11) + rm.locals ≤ R.locals) (h3 : cells + rm.cells ≤ R.cells) (h4 : slots + rm.slots ≤ R.slots) :
    own_CameW p l e R s m args below meth c T locs (cells + rm.cells) (slots + rm.slots) Z own g 5 rest Q := by
  obtain ⟨cq, kq, qa, qb, qc⟩ := isOf hZ eT E
  obtain ⟨v, _, ⟨T', L', k', n'⟩, -, X', hS', hgr, ⟨Lc, hQ, l1, y1, z1⟩, st⟩ := X.interfaceBackS hx (xi := y) (y := z) hown (mvT hZ w1) (mvT hZ w2) w7 (mvT hZ w5) (mvT hZ w6) (mvT hZ w8) (mvT hZ w9) (mvT hZ w10) hy (backOfS (W := W) hM hZ w4 w3 h1 h2) qa qb qc (g := g) hg hsize (Steps.refl _) (argsL := argsL) (rest := rest) (lenOf hd hl) hstack (Nat.le_of_eq hW) hdg (fun _ _ => ⟨ha, eT, h3, h4⟩)
  dsimp only [Pt.U, Pt.locs, Pt.cells, Pt.slots] at X' hS' hgr l1 y1 z1 st hQ
  subst l1 y1 z1
  obtain ⟨r1, r2, r3, r4⟩ := rebS hS (by rw [eT]; exact hk) X' hS' hgr hZ hown
  exact ⟨T', v, Lc, r1, r2, r3, r4, hQ, fun _ k => st.trans k⟩
theorem own_callPW (X : Stand p l e R (s.setVm vm₀) m args below meth c T locs cells slots) (hx : p.tables.exec = Jvm.exec) (hZ : Z.Warmed39 (s.setVm vm₀).vm) (hS : s.Since vm₀ k₀) (hk : k₀ ≤ h.size) {own : String} {index : Nat} {y : MethodName} {bytes : ByteArray} {maxL : Nat} {ret : Option FieldType} {rm : Room} {as' : Array Value} {Q : Option Value → Heap → List Loc → Prop}
    (hown : (s.setVm vm₀).vm.findClass own = some m.cls) (w1 : (Cond.methodLink own index y).before a0 Z = true) (w6 : (Cond.instanceMethod y).before a0 Z = true) (w5 : (Cond.selects y.cls y y).before args (s.setVm vm₀) = true) (w7 : (Cond.privateMethod y).before a0 Z = true) (w3 : (Cond.initialized y.cls).before a0 Z = true) (w4 : (Cond.code y bytes maxL ret).before a0 Z = true)
    (hy : y.cls ≠ "java/lang/invoke/MethodHandle" ∧ y.cls ≠ "java/lang/invoke/VarHandle") (hM : own_MetW l y bytes maxL ret [] rm Z h as' Q) (eT : T.heap = h) {a : Addr} {C : String} (E : Exa Z h a C) {ps : List FieldType} {r : Option FieldType} (hd : parseMethodDescriptor y.desc = some ⟨ps, r⟩) {argsL rest : List Value} (hl : argsL.length = ps.length) (ha : (.ref a :: argsL).toArray = as')
    {g : JFrame} (hg : g.method = m) (hsize : g.locals.size = c.maxLocals) (hstack : g.stack = argsL.reverse ++ .ref a :: rest) (hdg : decode c.code g.pc = .ok (.invokevirtual index, 3)) {W : Nat} (hW : 2 * g.monitorRoom + (rest.map fun v => v.category).sum = W) (h1 : rm.frames + 1 ≤ R.frames) (h2 : W + (maxL + 11) + rm.locals ≤ R.locals) (h3 : cells + rm.cells ≤ R.cells) (h4 : slots + rm.slots ≤ R.slots) :
    own_CameW p l e R s m args below meth c T locs (cells + rm.cells) (slots + rm.slots) Z own g 3 rest Q := by
  obtain ⟨cq, q, q'⟩ := E.cell
  obtain ⟨v, _, ⟨T', L', k', n'⟩, -, X', hS', hgr, ⟨Lc, hQ, l1, y1, z1⟩, st⟩ := privateBackS X hx (y := y) hown (mvT hZ w1) (mvT hZ w6) w5 (Cond.privateMethod_at (mvP hZ w7 (args := #[]))) (mvT hZ w4) hy (backOfS (W := W) hM hZ w4 w3 h1 h2) (g := g) hg hsize (Steps.refl _) (a := a) (by rw [eT]; exact q) q' (argsL := argsL) (rest := rest) (lenOf hd hl) hstack (Nat.le_of_eq hW) hdg (fun _ _ => ⟨ha, eT, h3, h4⟩)
  dsimp only [Pt.U, Pt.locs, Pt.cells, Pt.slots] at X' hS' hgr l1 y1 z1 st hQ
  subst l1 y1 z1
  obtain ⟨r1, r2, r3, r4⟩ := rebS hS (by rw [eT]; exact hk) X' hS' hgr hZ hown
  exact ⟨T', v, Lc, r1, r2, r3, r4, hQ, fun _ k => st.trans k⟩
end OwnW
section OwnHeld
variable {p : Program} {l : Launch} {e : Env} {R : Room} {s : State} {m : MethodId} {args : Array Value} {below : List Frame} {meth : Method} {c : Code} {T : State} {locs : List Loc} {cells slots : Nat} {Z : State} {a0 : Array Value} {h : Heap} {vm₀ : Vm} {k₀ : Nat} {EL : List (String × Nat)} {h0 : Heap} {sf : List Addr}
def own_PH (s : State) (Z : State) (EL : List (String × Nat)) (Q : Option Value → Heap → List Loc → Prop) (rc rs : Nat) (o : Outcome) (U : State) : Prop := ∃ v L, o = .returned v ∧ Q v U.heap L ∧ CHr Z EL s.vm s.heap U.vm U.heap ∧ ReturnedEndW s o U L rc rs
theorem own_retH (X : Stand p l e R (s.setVm vm₀) m args below meth c T locs cells slots) (hS : s.Since vm₀ k₀) (hk : k₀ ≤ h.size) (eT : T.heap = h) (hZ : Z.Warmed39 (s.setVm vm₀).vm) (hEL : EW Z a0 EL) (hs0 : s.heap = h0) (hR : CHr Z EL s.vm h0 vm₀ h) {Q : Option Value → Heap → List Loc → Prop} {rc rs : Nat} {g : JFrame} {v : Option Value} (hlk : meth.locks = false) (hv : meth.sig.returnType = none → v = none) (hq : Q v T.heap locs) (hc : cells ≤ rc) (hl : slots ≤ rs)
    (k : ∀ fs, (∀ (f : JFrame) (acts : List Action), f.method = m → f.locked = none → f.entered = [] → (doReturn e (T.setTop f) acts v).1 = T.setFrames fs) → Steps p.tables e below (T.setTop g) (T.setFrames fs)) : own_Go p e below (own_PH s Z EL Q rc rs) (T.setTop g) := by
  have hC : CHr Z EL s.vm s.heap T.vm T.heap := by
    rw [hs0, eT]; exact hR.trans (CHv.at X hZ hEL hR.1)
  obtain ⟨fs, hr, hrun, hended, hR'⟩ := X.leaveW hS (by rw [eT]; exact hk) (v := v) hv hlk
  exact ⟨_, _, k fs hr, hrun, hended, _, _, rfl, hq, hC, hR'.1, hR'.2.1, hR'.2.2.1, hR'.2.2.2.mono hc hl⟩
theorem own_retVH (X : Stand p l e R (s.setVm vm₀) m args below meth c T locs cells slots) (hS : s.Since vm₀ k₀) (hk : k₀ ≤ h.size) (eT : T.heap = h) (hZ : Z.Warmed39 (s.setVm vm₀).vm) (hEL : EW Z a0 EL) (hs0 : s.heap = h0) (hR : CHr Z EL s.vm h0 vm₀ h) (hx : p.tables.exec = Jvm.exec) {Q : Option Value → Heap → List Loc → Prop} {rc rs pc : Nat} {Ls : Array Slot} (hlk : meth.locks = false) (hret : meth.sig.returnType = none) (hd : decode c.code pc = .ok (.return_, 1)) (hc : cells ≤ rc) (hl : slots ≤ rs) (hq : Q none T.heap locs) : own_Go p e below (own_PH s Z EL Q rc rs) (T.setTop (mkF m pc Ls [])) :=
  own_retH X hS hk eT hZ hEL hs0 hR hlk (fun _ => rfl) hq hc hl fun _ hr => X.returnOut hx hret hd hr
theorem own_retXH (X : Stand p l e R (s.setVm vm₀) m args below meth c T locs cells slots) (hS : s.Since vm₀ k₀) (hk : k₀ ≤ h.size) (eT : T.heap = h) (hZ : Z.Warmed39 (s.setVm vm₀).vm) (hEL : EW Z a0 EL) (hs0 : s.heap = h0) (hR : CHr Z EL s.vm h0 vm₀ h) (hx : p.tables.exec = Jvm.exec) {Q : Option Value → Heap → List Loc → Prop} {rc rs pc : Nat} {Ls : Array Slot} {w : Value} {t : FieldType} {i : Instr} {rest : List Value} (hlk : meth.locks = false) (hret : meth.sig.returnType = some t) (hn : narrow t w = w)
    (hi : (i = .ireturn ∧ (t = .int ∨ t = .boolean ∨ t = .byte ∨ t = .char ∨ t = .short) ∧ ∃ z, w = .int z) ∨ (i = .lreturn ∧ t = .long ∧ ∃ z, w = .long z) ∨ (i = .dreturn ∧ t = .double ∧ ∃ z, w = .double z) ∨ (i = .freturn ∧ t = .float ∧ ∃ z, w = .float z) ∨ (i = .areturn ∧ t.isReference = true ∧ w.isRef = true))
    (hd : decode c.code pc = .ok (i, 1)) (hc : cells ≤ rc) (hl : slots ≤ rs) (hq : Q (some w) T.heap locs) : own_Go p e below (own_PH s Z EL Q rc rs) (T.setTop (mkF m pc Ls (w :: rest))) :=
  own_retH X hS hk eT hZ hEL hs0 hR hlk (fun q => by rw [hret] at q; cases q) hq hc hl fun _ hr => retOut X hx hret hn hi hd hr
abbrev own_MetH (EL : List (String × Nat)) (sf : List Addr) (l : Launch) (y : MethodName) (bytes : ByteArray) (maxL : Nat) (ret : Option FieldType) (ws : List Cond) (rm : Room) (Z : State) (h : Heap) (as' : Array Value) (Q : Option Value → Heap → List Loc → Prop) : Prop :=
  MetFree l y (head1 (Cond.code y bytes maxL ret :: ws) rm) (fun a U => a = as' ∧ Z.Warmed39 U.vm ∧ U.heap = h ∧ CHv Z EL U.vm h ∧ ∀ x ∈ sf, Safe Z EL U.vm h x) (fun _ _ _ _ _ => True) (fun _ U o U' => ∃ v L, o = .returned v ∧ Q v U'.heap L ∧ CHr Z EL U.vm U.heap U'.vm U'.heap ∧ ReturnedEndW U o U' L rm.cells rm.slots)
theorem own_bodyH {y : MethodName} {bytes : ByteArray} {maxL : Nat} {ret : Option FieldType} {rm : Room} {ws : List Cond} {as' : Array Value} {Q : Option Value → Heap → List Loc → Prop} (hn : plainFor y = true)
    (b : ∀ (p : Program) (e : Env) (s : State) (m : MethodId) (below : List Frame) (meth : Method) (c : Code) (s₁ : State), p.tables.exec = Jvm.exec → c.code = bytes → c.maxLocals = maxL → (s.setVm s.vm).vm.findClass y.cls = some m.cls → meth.name = y.name → meth.sig.returnType = ret → meth.locks = false → Z.Warmed39 (s.setVm s.vm).vm → s₁.heap = h → Stand p l e rm (s.setVm s.vm) m as' below meth c s₁ [] 0 0 → s.Since s.vm 0 → s.heap = h → CHv Z EL s.vm h → (∀ x ∈ sf, Safe Z EL s.vm h x) →
      own_Go p e below (own_PH s Z EL Q rm.cells rm.slots) (s₁.setTop (entryFrame m as' maxL))) :
    own_MetH EL sf l y bytes maxL ret ws rm Z h as' Q := by
  refine MetFree.of_bodySF hn hisR ?_
  intro p e s m args below meth c s₁ Bd hml0 hP hK
  obtain ⟨rfl, hZ, hh, hC, hsf⟩ := hP
  exact b p e s m below meth c s₁ Bd.exec Bd.bytes hml0 (findClass_of_methodNamed Bd.named) (name_of_methodNamed Bd.named Bd.method).1 Bd.returns Bd.notSynchronized hZ (by rw [← hh, Bd.state]; rfl) (Stand.of_body Bd) ((State.WarmedH.refl s).since 0) hh hC hsf
theorem own_backH {y : MethodName} {bytes : ByteArray} {maxL : Nat} {ret : Option FieldType} {rm : Room} {len W : Nat} {as' : Array Value} {Q : Option Value → Heap → List Loc → Prop} (hM : own_MetH EL sf l y bytes maxL ret [] rm Z h as' Q)
    (hZ : Z.Warmed39 vm₀) (wc : (Cond.code y bytes maxL ret).before a0 Z = true) (wz : (Cond.initialized y.cls).before a0 Z = true) (hf : rm.frames + 1 ≤ R.frames) (hl : W + (maxL + 11) + rm.locals ≤ R.locals) (hEL : EW Z a0 EL) (H : CHv Z EL vm₀ h) (hsf : ∀ x ∈ sf, x < h.size ∧ Safe Z EL vm₀ h x) :
    BackS l R p e below (s.setVm vm₀) args y len W (fun A a => a = as' ∧ A.U.heap = h ∧ A.cells + rm.cells ≤ R.cells ∧ A.slots + rm.slots ≤ R.slots)
      (fun A _ v B => ∃ L, Q v B.U.heap L ∧ B.locs = A.locs ++ L ∧ B.cells = A.cells + rm.cells ∧ B.slots = A.slots + rm.slots ∧ CHr Z EL vm₀ h B.U.vm B.U.heap) :=
  BackS.of_freeW (bytes := bytes) (maxL := maxL) (ret := ret) (E := fun _ first o t L k n => k = rm.cells ∧ n = rm.slots ∧ (∃ v, o = .returned v ∧ Q v t.heap L) ∧ CHr Z EL first.vm first.heap t.vm t.heap) hM hf hl
    (fun m meth c A a Y hp => have hU : Z.Warmed39 A.U.vm := wtrans (s := s.setVm vm₀) hZ Y.warmed
      ⟨by show (Cond.and _ .tt).before a A.U = true; rw [Cond.before_and, mv hU wc]; rfl, mv hU wc, mv hU wz, hp.2.2.1, hp.2.2.2⟩)
    (fun m meth c A a g mk Y hp => have K := CHv.at Y hZ hEL H; ⟨hp.1, wtrans (s := s.setVm vm₀) hZ Y.warmed, hp.2.1, K.1, fun x q => K.safe (hsf x q).1 (hsf x q).2⟩) (fun _ _ _ _ _ _ _ _ _ => trivial)
    (fun _ _ _ _ ⟨v, L, h1, h2, h3, h4⟩ => ⟨L, _, _, h4, rfl, rfl, ⟨v, h1, h2⟩, h3⟩)
    (fun m meth c A a g mk v t L k n Y hp _ _ ⟨e1, e2, ⟨v', e3, e4⟩, e5⟩ => by
      cases e3; subst e1 e2
      refine ⟨L, e4, rfl, rfl, rfl, (CHv.at Y hZ hEL H).trans ?_⟩
      rw [← hp.2.1]; exact e5)
theorem own_sf0 {vm : Vm} : ∀ x ∈ ([] : List Addr), x < h.size ∧ Safe Z EL vm h x := fun _ q => nomatch q
theorem own_sfS {vm : Vm} {x : Addr} (lt : x < h.size) (n : Safe Z EL vm h x) (r : ∀ y ∈ sf, y < h.size ∧ Safe Z EL vm h y) : ∀ y ∈ x :: sf, y < h.size ∧ Safe Z EL vm h y := fun y q => by
  rcases List.mem_cons.mp q with rfl | q
  · exact ⟨lt, n⟩
  · exact r y q
abbrev own_CameH (EL : List (String × Nat)) (vm₀ : Vm) (h : Heap) (p : Program) (l : Launch) (e : Env) (R : Room) (s : State) (m : MethodId) (args : Array Value) (below : List Frame) (meth : Method) (c : Code) (T : State) (locs : List Loc) (cells slots : Nat) (Z : State) (own : String) (g : JFrame) (len : Nat) (rest : List Value) (Q : Option Value → Heap → List Loc → Prop) : Prop :=
  ∃ (T' : State) (v : Option Value) (L : List Loc), Stand p l e R (s.setVm T'.vm) m args below meth c T' (locs ++ L) cells slots ∧ s.Since T'.vm T'.heap.size ∧ Z.Warmed39 (s.setVm T'.vm).vm ∧ (s.setVm T'.vm).vm.findClass own = some m.cls ∧ Q v T'.heap L ∧ CHr Z EL vm₀ h T'.vm T'.heap ∧ ∀ t, Steps p.tables e below (T'.setTop { g with pc := g.pc + len, stack := v.toList ++ rest }) t → Steps p.tables e below (T.setTop g) t
theorem own_callSH (X : Stand p l e R (s.setVm vm₀) m args below meth c T locs cells slots) (hx : p.tables.exec = Jvm.exec) (hZ : Z.Warmed39 (s.setVm vm₀).vm) (hS : s.Since vm₀ k₀) (hk : k₀ ≤ h.size) (hEL : EW Z a0 EL) (H : CHv Z EL vm₀ h) (hsf : ∀ x ∈ sf, x < h.size ∧ Safe Z EL vm₀ h x) {own : String} {index : Nat} {y : MethodName} {bytes : ByteArray} {maxL : Nat} {ret : Option FieldType} {rm : Room} {as' : Array Value} {Q : Option Value → Heap → List Loc → Prop}
    (hown : (s.setVm vm₀).vm.findClass own = some m.cls) (w1 : (Cond.methodLink own index y).before a0 Z = true) (w2 : (Cond.static y).before a0 Z = true) (w3 : (Cond.initialized y.cls).before a0 Z = true) (w4 : (Cond.code y bytes maxL ret).before a0 Z = true)
    (hy : y.cls ≠ "java/lang/invoke/MethodHandle" ∧ y.cls ≠ "java/lang/invoke/VarHandle") (hM : own_MetH EL sf l y bytes maxL ret [] rm Z h as' Q) (eT : T.heap = h) {ps : List FieldType} {r : Option FieldType} (hd : parseMethodDescriptor y.desc = some ⟨ps, r⟩) {argsL rest : List Value} (hl : argsL.length = ps.length) (ha : argsL.toArray = as')
    {g : JFrame} (hg : g.method = m) (hsize : g.locals.size = c.maxLocals) (hstack : g.stack = argsL.reverse ++ rest) (hdg : decode c.code g.pc = .ok (.invokestatic index, 3)) {W : Nat} (hW : 2 * g.monitorRoom + (rest.map fun v => v.category).sum = W) (h1 : rm.frames + 1 ≤ R.frames) (h2 : W + (maxL + 11) + rm.locals ≤ R.locals) (h3 : cells + rm.cells ≤ R.cells) (h4 : slots + rm.slots ≤ R.slots) :
    own_CameH EL vm₀ h p l e R s m args below meth c T locs (cells + rm.cells) (slots + rm.slots) Z own g 3 rest Q := by
  obtain ⟨v, _, ⟨T', L', k', n'⟩, -, X', hS', hgr, ⟨Lc, hQ, l1, y1, z1, hr⟩, st⟩ := callSS X hx (y := y) hown (mvT hZ w1) (mvT hZ w2) (mvT hZ w3) (mvT hZ w4) hy (own_backH (W := W) hM hZ w4 w3 h1 h2 hEL H hsf) (g := g) hg hsize (argsL := argsL) (rest := rest) (lenOf hd hl) hstack (Nat.le_of_eq hW) hdg (fun _ _ => ⟨ha, eT, h3, h4⟩)
  dsimp only [Pt.U, Pt.locs, Pt.cells, Pt.slots] at X' hS' hgr l1 y1 z1 st hQ hr
  subst l1 y1 z1
  obtain ⟨r1, r2, r3, r4⟩ := rebS hS (by rw [eT]; exact hk) X' hS' hgr hZ hown
  exact ⟨T', v, Lc, r1, r2, r3, r4, hQ, hr, fun _ k => st.trans k⟩
theorem own_callNH (X : Stand p l e R (s.setVm vm₀) m args below meth c T locs cells slots) (hx : p.tables.exec = Jvm.exec) (hZ : Z.Warmed39 (s.setVm vm₀).vm) (hS : s.Since vm₀ k₀) (hk : k₀ ≤ h.size) (hEL : EW Z a0 EL) (H : CHv Z EL vm₀ h) (hsf : ∀ x ∈ sf, x < h.size ∧ Safe Z EL vm₀ h x) {own : String} {index : Nat} {y : MethodName} {bytes : ByteArray} {maxL : Nat} {rm : Room} {as' : Array Value} {Q : Option Value → Heap → List Loc → Prop} (hy1 : y.name = "<init>")
    (hown : (s.setVm vm₀).vm.findClass own = some m.cls) (w1 : (Cond.methodLink own index y).before a0 Z = true) (w2 : (Cond.instanceMethod y).before a0 Z = true) (w3 : (Cond.initialized y.cls).before a0 Z = true) (w4 : (Cond.code y bytes maxL none).before a0 Z = true)
    (hy : y.cls ≠ "java/lang/invoke/MethodHandle" ∧ y.cls ≠ "java/lang/invoke/VarHandle") (hM : own_MetH EL sf l y bytes maxL none [] rm Z h as' Q) (eT : T.heap = h) {ps : List FieldType} {r : Option FieldType} (hd : parseMethodDescriptor y.desc = some ⟨ps, r⟩) {a : Addr} {argsL rest : List Value} (hl : argsL.length = ps.length) (ha : (.ref a :: argsL).toArray = as')
    {g : JFrame} (hg : g.method = m) (hsize : g.locals.size = c.maxLocals) (hstack : g.stack = argsL.reverse ++ .ref a :: rest) (hdg : decode c.code g.pc = .ok (.invokespecial index, 3)) {W : Nat} (hW : 2 * g.monitorRoom + (rest.map fun v => v.category).sum = W) (h1 : rm.frames + 1 ≤ R.frames) (h2 : W + (maxL + 11) + rm.locals ≤ R.locals) (h3 : cells + rm.cells ≤ R.cells) (h4 : slots + rm.slots ≤ R.slots) :
    own_CameH EL vm₀ h p l e R s m args below meth c T locs (cells + rm.cells) (slots + rm.slots) Z own g 3 rest Q := by
  obtain ⟨v, _, ⟨T', L', k', n'⟩, -, X', hS', hgr, ⟨Lc, hQ, l1, y1, z1, hr⟩, st⟩ := X.specialBackS hx (y := y) hy1 hown (mvT hZ w1) (mvT hZ w2) (mvT hZ w4) hy (own_backH (W := W) hM hZ w4 w3 h1 h2 hEL H hsf) (g := g) hg hsize (Steps.refl _) (a := a) (argsL := argsL) (rest := rest) (lenOf hd hl) hstack (Nat.le_of_eq hW) hdg (fun _ _ => ⟨ha, eT, h3, h4⟩)
  dsimp only [Pt.U, Pt.locs, Pt.cells, Pt.slots] at X' hS' hgr l1 y1 z1 st hQ hr
  subst l1 y1 z1
  obtain ⟨r1, r2, r3, r4⟩ := rebS hS (by rw [eT]; exact hk) X' hS' hgr hZ hown
  exact ⟨T', v, Lc, r1, r2, r3, r4, hQ, hr, fun _ k => st.trans k⟩
theorem own_callVH (X : Stand p l e R (s.setVm vm₀) m args below meth c T locs cells slots) (hx : p.tables.exec = Jvm.exec) (hZ : Z.Warmed39 (s.setVm vm₀).vm) (hS : s.Since vm₀ k₀) (hk : k₀ ≤ h.size) (hEL : EW Z a0 EL) (H : CHv Z EL vm₀ h) (hsf : ∀ x ∈ sf, x < h.size ∧ Safe Z EL vm₀ h x) {own C : String} {index : Nat} {y z : MethodName} {bytes : ByteArray} {maxL : Nat} {ret : Option FieldType} {rm : Room} {as' : Array Value} {Q : Option Value → Heap → List Loc → Prop}
    (hown : (s.setVm vm₀).vm.findClass own = some m.cls) (w1 : (Cond.methodLink own index y).before a0 Z = true) (w2 : (Cond.declares y).before a0 Z = true) (hnf : NotFace (s.setVm vm₀) y) (w5 : (Cond.selects C y z).before a0 Z = true) (w6 : (Cond.instanceMethod z).before a0 Z = true) (w3 : (Cond.initialized z.cls).before a0 Z = true) (w4 : (Cond.code z bytes maxL ret).before a0 Z = true)
    (hy : y.cls ≠ "java/lang/invoke/MethodHandle" ∧ y.cls ≠ "java/lang/invoke/VarHandle") (hM : own_MetH EL sf l z bytes maxL ret [] rm Z h as' Q) (eT : T.heap = h) {a : Addr} (E : Exa Z h a C) {ps : List FieldType} {r : Option FieldType} (hd : parseMethodDescriptor y.desc = some ⟨ps, r⟩) {argsL rest : List Value} (hl : argsL.length = ps.length) (ha : (.ref a :: argsL).toArray = as')
    {g : JFrame} (hg : g.method = m) (hsize : g.locals.size = c.maxLocals) (hstack : g.stack = argsL.reverse ++ .ref a :: rest) (hdg : decode c.code g.pc = .ok (.invokevirtual index, 3)) {W : Nat} (hW : 2 * g.monitorRoom + (rest.map fun v => v.category).sum = W) (h1 : rm.frames + 1 ≤ R.frames) (h2 : W + (maxL + 11) + rm.locals ≤ R.locals) (h3 : cells + rm.cells ≤ R.cells) (h4 : slots + rm.slots ≤ R.slots) :
    own_CameH EL vm₀ h p l e R s m args below meth c T locs (cells + rm.cells) (slots + rm.slots) Z own g 3 rest Q := by
  obtain ⟨cq, kq, qa, qb, qc⟩ := isOf hZ eT E
  obtain ⟨v, _, ⟨T', L', k', n'⟩, -, X', hS', hgr, ⟨Lc, hQ, l1, y1, z1, hr⟩, st⟩ := X.virtualBackS hx (y := y) (z := z) hown (mvT hZ w1) (mvT hZ w2) hnf (mvT hZ w5) (mvT hZ w6) hy (own_backH (W := W) hM hZ w4 w3 h1 h2 hEL H hsf) qa qc (g := g) hg hsize (Steps.refl _) (argsL := argsL) (rest := rest) (lenOf hd hl) hstack (Nat.le_of_eq hW) hdg (fun _ _ => ⟨ha, eT, h3, h4⟩)
  dsimp only [Pt.U, Pt.locs, Pt.cells, Pt.slots] at X' hS' hgr l1 y1 z1 st hQ hr
  subst l1 y1 z1
  obtain ⟨r1, r2, r3, r4⟩ := rebS hS (by rw [eT]; exact hk) X' hS' hgr hZ hown
  exact ⟨T', v, Lc, r1, r2, r3, r4, hQ, hr, fun _ k => st.trans k⟩
theorem own_callUH (X : Stand p l e R (s.setVm vm₀) m args below meth c T locs cells slots) (hx : p.tables.exec = Jvm.exec) (hZ : Z.Warmed39 (s.setVm vm₀).vm) (hS : s.Since vm₀ k₀) (hk : k₀ ≤ h.size) (hEL : EW Z a0 EL) (H : CHv Z EL vm₀ h) (hsf : ∀ x ∈ sf, x < h.size ∧ Safe Z EL vm₀ h x) {own C owner : String} {index : Nat} {y z : MethodName} {bytes : ByteArray} {maxL : Nat} {ret : Option FieldType} {rm : Room} {as' : Array Value} {Q : Option Value → Heap → List Loc → Prop}
    (hown : (s.setVm vm₀).vm.findClass own = some m.cls) (w1 : (Cond.methodLink own index y).before a0 Z = true) (w7 : (Cond.sameMethod y.cls owner y.name y.desc).before a0 Z = true) (w2 : (Cond.declares ⟨owner, y.name, y.desc⟩).before a0 Z = true) (w5 : (Cond.selects C y z).before a0 Z = true) (w6 : (Cond.instanceMethod z).before a0 Z = true) (w3 : (Cond.initialized z.cls).before a0 Z = true) (w4 : (Cond.code z bytes maxL ret).before a0 Z = true)
    (hy : owner ≠ "java/lang/invoke/MethodHandle" ∧ owner ≠ "java/lang/invoke/VarHandle") (hM : own_MetH EL sf l z bytes maxL ret [] rm Z h as' Q) (eT : T.heap = h) {a : Addr} (E : Exa Z h a C) {ps : List FieldType} {r : Option FieldType} (hd : parseMethodDescriptor y.desc = some ⟨ps, r⟩) {argsL rest : List Value} (hl : argsL.length = ps.length) (ha : (.ref a :: argsL).toArray = as')
    {g : JFrame} (hg : g.method = m) (hsize : g.locals.size = c.maxLocals) (hstack : g.stack = argsL.reverse ++ .ref a :: rest) (hdg : decode c.code g.pc = .ok (.invokevirtual index, 3)) {W : Nat} (hW : 2 * g.monitorRoom + (rest.map fun v => v.category).sum = W) (h1 : rm.frames + 1 ≤ R.frames) (h2 : W + (maxL + 11) + rm.locals ≤ R.locals) (h3 : cells + rm.cells ≤ R.cells) (h4 : slots + rm.slots ≤ R.slots) :
    own_CameH EL vm₀ h p l e R s m args below meth c T locs (cells + rm.cells) (slots + rm.slots) Z own g 3 rest Q := by
  obtain ⟨cq, kq, qa, qb, qc⟩ := isOf hZ eT E
  obtain ⟨v, _, ⟨T', L', k', n'⟩, -, X', hS', hgr, ⟨Lc, hQ, l1, y1, z1, hr⟩, st⟩ := virtualBackUpS X hx (x := y) (y := z) hown (mvT hZ w1) (mvT hZ w7) (mvT hZ w2) hy (mvT hZ w5) (mvT hZ w6) (own_backH (W := W) hM hZ w4 w3 h1 h2 hEL H hsf) qa qc (g := g) hg hsize (Steps.refl _) (argsL := argsL) (rest := rest) (lenOf hd hl) hstack (Nat.le_of_eq hW) hdg (fun _ _ => ⟨ha, eT, h3, h4⟩)
  dsimp only [Pt.U, Pt.locs, Pt.cells, Pt.slots] at X' hS' hgr l1 y1 z1 st hQ hr
  subst l1 y1 z1
  obtain ⟨r1, r2, r3, r4⟩ := rebS hS (by rw [eT]; exact hk) X' hS' hgr hZ hown
  exact ⟨T', v, Lc, r1, r2, r3, r4, hQ, hr, fun _ k => st.trans k⟩
theorem own_callIH (X : Stand p l e R (s.setVm vm₀) m args below meth c T locs cells slots) (hx : p.tables.exec = Jvm.exec) (hZ : Z.Warmed39 (s.setVm vm₀).vm) (hS : s.Since vm₀ k₀) (hk : k₀ ≤ h.size) (hEL : EW Z a0 EL) (H : CHv Z EL vm₀ h) (hsf : ∀ x ∈ sf, x < h.size ∧ Safe Z EL vm₀ h x) {own C : String} {index count : Nat} {y z : MethodName} {bytes : ByteArray} {maxL : Nat} {ret : Option FieldType} {rm : Room} {as' : Array Value} {Q : Option Value → Heap → List Loc → Prop}
    (hown : (s.setVm vm₀).vm.findClass own = some m.cls) (w1 : (Cond.methodLink own index y).before a0 Z = true) (w2 : (Cond.declares y).before a0 Z = true) (w7 : (Cond.interfaceMethod y.cls y.cls y.name y.desc).before args (s.setVm vm₀) = true) (w5 : (Cond.selects C y z).before a0 Z = true) (w6 : (Cond.instanceMethod z).before a0 Z = true) (w8 : (Cond.publicMethod z).before a0 Z = true) (w9 : (Cond.unhidden C y.name y.desc).before a0 Z = true) (w10 : (Cond.castable C y.cls).before a0 Z = true) (w3 : (Cond.initialized z.cls).before a0 Z = true) (w4 : (Cond.code z bytes maxL ret).before a0 Z = true)
    (hy : y.cls ≠ "java/lang/invoke/MethodHandle" ∧ y.cls ≠ "java/lang/invoke/VarHandle") (hM : own_MetH EL sf l z bytes maxL ret [] rm Z h as' Q) (eT : T.heap = h) {a : Addr} (E : Exa Z h a C) {ps : List FieldType} {r : Option FieldType} (hd : parseMethodDescriptor y.desc = some ⟨ps, r⟩) {argsL rest : List Value} (hl : argsL.length = ps.length) (ha : (.ref a :: argsL).toArray = as')
    {g : JFrame} (hg : g.method = m) (hsize : g.locals.size = c.maxLocals) (hstack : g.stack = argsL.reverse ++ .ref a :: rest) (hdg : decode c.code g.pc = .ok (.invokeinterface index count, 5)) {W : Nat} (hW : 2 * g.monitorRoom + (rest.map fun v => v.category).sum = W) (h1 : rm.frames + 1 ≤ R.frames) (h2 : W + (maxL + 11) + rm.locals ≤ R.locals) (h3 : cells + rm.cells ≤ R.cells) (h4 : slots + rm.slots ≤ R.slots) :
    own_CameH EL vm₀ h p l e R s m args below meth c T locs (cells + rm.cells) (slots + rm.slots) Z own g 5 rest Q := by
  obtain ⟨cq, kq, qa, qb, qc⟩ := isOf hZ eT E
  obtain ⟨v, _, ⟨T', L', k', n'⟩, -, X', hS', hgr, ⟨Lc, hQ, l1, y1, z1, hr⟩, st⟩ := X.interfaceBackS hx (xi := y) (y := z) hown (mvT hZ w1) (mvT hZ w2) w7 (mvT hZ w5) (mvT hZ w6) (mvT hZ w8) (mvT hZ w9) (mvT hZ w10) hy (own_backH (W := W) hM hZ w4 w3 h1 h2 hEL H hsf) qa qb qc (g := g) hg hsize (Steps.refl _) (argsL := argsL) (rest := rest) (lenOf hd hl) hstack (Nat.le_of_eq hW) hdg (fun _ _ => ⟨ha, eT, h3, h4⟩)
  dsimp only [Pt.U, Pt.locs, Pt.cells, Pt.slots] at X' hS' hgr l1 y1 z1 st hQ hr
  subst l1 y1 z1
  obtain ⟨r1, r2, r3, r4⟩ := rebS hS (by rw [eT]; exact hk) X' hS' hgr hZ hown
  exact ⟨T', v, Lc, r1, r2, r3, r4, hQ, hr, fun _ k => st.trans k⟩
theorem own_callPH (X : Stand p l e R (s.setVm vm₀) m args below meth c T locs cells slots) (hx : p.tables.exec = Jvm.exec) (hZ : Z.Warmed39 (s.setVm vm₀).vm) (hS : s.Since vm₀ k₀) (hk : k₀ ≤ h.size) (hEL : EW Z a0 EL) (H : CHv Z EL vm₀ h) (hsf : ∀ x ∈ sf, x < h.size ∧ Safe Z EL vm₀ h x) {own : String} {index : Nat} {y : MethodName} {bytes : ByteArray} {maxL : Nat} {ret : Option FieldType} {rm : Room} {as' : Array Value} {Q : Option Value → Heap → List Loc → Prop}
    (hown : (s.setVm vm₀).vm.findClass own = some m.cls) (w1 : (Cond.methodLink own index y).before a0 Z = true) (w6 : (Cond.instanceMethod y).before a0 Z = true) (w5 : (Cond.selects y.cls y y).before args (s.setVm vm₀) = true) (w7 : (Cond.privateMethod y).before a0 Z = true) (w3 : (Cond.initialized y.cls).before a0 Z = true) (w4 : (Cond.code y bytes maxL ret).before a0 Z = true)
    (hy : y.cls ≠ "java/lang/invoke/MethodHandle" ∧ y.cls ≠ "java/lang/invoke/VarHandle") (hM : own_MetH EL sf l y bytes maxL ret [] rm Z h as' Q) (eT : T.heap = h) {a : Addr} {C : String} (E : Exa Z h a C) {ps : List FieldType} {r : Option FieldType} (hd : parseMethodDescriptor y.desc = some ⟨ps, r⟩) {argsL rest : List Value} (hl : argsL.length = ps.length) (ha : (.ref a :: argsL).toArray = as')
    {g : JFrame} (hg : g.method = m) (hsize : g.locals.size = c.maxLocals) (hstack : g.stack = argsL.reverse ++ .ref a :: rest) (hdg : decode c.code g.pc = .ok (.invokevirtual index, 3)) {W : Nat} (hW : 2 * g.monitorRoom + (rest.map fun v => v.category).sum = W) (h1 : rm.frames + 1 ≤ R.frames) (h2 : W + (maxL + 11) + rm.locals ≤ R.locals) (h3 : cells + rm.cells ≤ R.cells) (h4 : slots + rm.slots ≤ R.slots) :
    own_CameH EL vm₀ h p l e R s m args below meth c T locs (cells + rm.cells) (slots + rm.slots) Z own g 3 rest Q := by
  obtain ⟨cq, q, q'⟩ := E.cell
  obtain ⟨v, _, ⟨T', L', k', n'⟩, -, X', hS', hgr, ⟨Lc, hQ, l1, y1, z1, hr⟩, st⟩ := privateBackS X hx (y := y) hown (mvT hZ w1) (mvT hZ w6) w5 (Cond.privateMethod_at (mvP hZ w7 (args := #[]))) (mvT hZ w4) hy (own_backH (W := W) hM hZ w4 w3 h1 h2 hEL H hsf) (g := g) hg hsize (Steps.refl _) (a := a) (by rw [eT]; exact q) q' (argsL := argsL) (rest := rest) (lenOf hd hl) hstack (Nat.le_of_eq hW) hdg (fun _ _ => ⟨ha, eT, h3, h4⟩)
  dsimp only [Pt.U, Pt.locs, Pt.cells, Pt.slots] at X' hS' hgr l1 y1 z1 st hQ hr
  subst l1 y1 z1
  obtain ⟨r1, r2, r3, r4⟩ := rebS hS (by rw [eT]; exact hk) X' hS' hgr hZ hown
  exact ⟨T', v, Lc, r1, r2, r3, r4, hQ, hr, fun _ k => st.trans k⟩
end OwnHeld
theorem own_strW {a0 : Array Value} {Z : State} (hw : ∀ d ∈ tables_1, d.before a0 Z = true) : ∀ a ∈ Bundle.stringAtoms, a.before a0 Z = true := fun a ha => hw a (by revert a; decide +kernel)
abbrev own_EL : List (String × Nat) := [("java/lang/String", 7)]
theorem own_hEL {a0 : Array Value} {Z : State} (hw : own_H a0 Z) : EW Z a0 own_EL := (EW.cons (own_w hw 78 rfl) (by decide) EW.nil)
theorem own_stne {t : Term} {k j : Int32} {args : Array Value} {Z : State} (ht : t.eval args Z none [] Z = some (.int j)) (h : (Cond.not (Cond.eq t (.int k))).value args Z none Z [] = some true) : ¬ j = k := by
  have h2 := not_v h
  simpa [Cond.value, ht, Term.int_eval] using h2
theorem own_steq {t : Term} {k : Int32} {args : Array Value} {Z : State} (h : (Cond.eq t (.int k)).value args Z none Z [] = some true) : t.eval args Z none [] Z = some (.int k) := by
  obtain ⟨x, y, ea, eb, -, k2⟩ := cmp_v (Or.inl h)
  obtain rfl : y = .int k := (Option.some.inj (eb.symm.trans (Term.int_eval k)))
  obtain ⟨z, rfl⟩ := k2
  obtain rfl : z = k := by simpa [Cond.value, ea, eb] using h
  exact ea
def own_C16 (v : Int32) : Prop := v.toUInt32.toUInt16.toUInt32.toInt32 = v
theorem own_c16 (x : Int32) : own_C16 (nar .char x) := by
  unfold own_C16 nar
  apply Int32.toBitVec_inj.1
  apply BitVec.eq_of_toNat_eq
  simp
theorem own_m16 (x : BitVec 32) : x % 65536#32 = x &&& 65535#32 := by
  apply BitVec.eq_of_toNat_eq
  simp only [BitVec.toNat_umod, BitVec.toNat_and]
  exact (Nat.and_two_pow_sub_one_eq_mod _ 16).symm
theorem own_l8 (i : Nat) : (255#32).getLsbD i = decide (i < 8) := by
  rw [show (255#32) = BitVec.ofNat 32 (2^8-1) from rfl, BitVec.getLsbD_ofNat, Nat.testBit_two_pow_sub_one]
  by_cases h : i < 8
  · simp [h]; omega
  · simp [h]
theorem own_l16 (i : Nat) : (65535#32).getLsbD i = decide (i < 16) := by
  rw [show (65535#32) = BitVec.ofNat 32 (2^16-1) from rfl, BitVec.getLsbD_ofNat, Nat.testBit_two_pow_sub_one]
  by_cases h : i < 16
  · simp [h]; omega
  · simp [h]
theorem own_gc (c : Int32) (h : own_C16 c) : (((((c >>> ((0 : Int32) &&& 31)).toInt8.toInt32) &&& (255 : Int32)) <<< ((0 : Int32) &&& 31)) ||| ((((c >>> ((8 : Int32) &&& 31)).toInt8.toInt32) &&& (255 : Int32)) <<< ((8 : Int32) &&& 31))).toUInt32.toUInt16.toUInt32.toInt32 = c := by
  unfold own_C16 at h
  conv => rhs; rw [← h]
  apply Int32.toBitVec_inj.1
  simp
  simp only [own_m16]
  apply BitVec.eq_of_getLsbD_eq
  intro i hi
  simp only [BitVec.getLsbD_or, BitVec.getLsbD_and, BitVec.getLsbD_shiftLeft, own_l8, own_l16, BitVec.getLsbD_signExtend, BitVec.getLsbD_sshiftRight]
  by_cases h8 : i < 8
  · have h16 : i < 16 := by omega
    simp [h8, h16, hi]
  · by_cases h16 : i < 16
    · have e : 8 + (i - 8) = i := by omega
      have a1 : i - 8 < 8 := by omega
      have a2 : i - 8 < 32 := by omega
      simp [h8, h16, hi, e, a1, a2]
    · simp [h8, h16]
def own_S (Z : State) (wcs : Int32) : Prop := Sta Z Z.heap "java/lang/String" "COMPACT_STRINGS" "Z" (.int wcs) ∧ ¬ wcs = (0 : Int32) ∧ Sta Z Z.heap "java/lang/StringUTF16" "$assertionsDisabled" "Z" (.int (1 : Int32)) ∧ Sta Z Z.heap "java/lang/StringUTF16" "HI_BYTE_SHIFT" "I" (.int (0 : Int32)) ∧ Sta Z Z.heap "java/lang/StringUTF16" "LO_BYTE_SHIFT" "I" (.int (8 : Int32))
theorem own_d_jdk_52_21_0 : decode jdk_52_method_21_code 0 = .ok (.iconst 0, 1) := by decide +kernel
theorem own_d_jdk_52_21_1 : decode jdk_52_method_21_code 1 = .ok (.istore 5, 2) := by decide +kernel
theorem own_d_jdk_52_21_3 : decode jdk_52_method_21_code 3 = .ok (.iload 5, 2) := by decide +kernel
theorem own_d_jdk_52_21_5 : decode jdk_52_method_21_code 5 = .ok (.iload 4, 2) := by decide +kernel
theorem own_d_jdk_52_21_7 : decode jdk_52_method_21_code 7 = .ok (.if_icmp .ge 37, 3) := by decide +kernel
theorem own_d_jdk_52_21_10 : decode jdk_52_method_21_code 10 = .ok (.aload_n 0, 1) := by decide +kernel
theorem own_d_jdk_52_21_11 : decode jdk_52_method_21_code 11 = .ok (.iload_n 1, 1) := by decide +kernel
theorem own_d_jdk_52_21_12 : decode jdk_52_method_21_code 12 = .ok (.caload, 1) := by decide +kernel
theorem own_d_jdk_52_21_13 : decode jdk_52_method_21_code 13 = .ok (.istore 6, 2) := by decide +kernel
theorem own_d_jdk_52_21_15 : decode jdk_52_method_21_code 15 = .ok (.iload 6, 2) := by decide +kernel
theorem own_d_jdk_52_21_17 : decode jdk_52_method_21_code 17 = .ok (.sipush 255, 3) := by decide +kernel
theorem own_d_jdk_52_21_20 : decode jdk_52_method_21_code 20 = .ok (.if_icmp .le 6, 3) := by decide +kernel
theorem own_d_jdk_52_21_23 : decode jdk_52_method_21_code 23 = .ok (.iload 5, 2) := by decide +kernel
theorem own_d_jdk_52_21_25 : decode jdk_52_method_21_code 25 = .ok (.ireturn, 1) := by decide +kernel
abbrev own_y_14 : MethodName := ⟨"java/lang/StringUTF16", "compress", "([CI[BII)I"⟩
theorem own_pn_15 : plainName "java/lang/StringUTF16" = true := by first | (simp [plainName, overriddenIn]; done) | decide +kernel
theorem own_ef_rmCp1_0 (m : MethodId) (a : Addr) (b : Addr)  : entryFrame m #[(.ref a), (.int (0 : Int32)), (.ref b), (.int (0 : Int32)), (.int (1 : Int32))] 7 = mkF m 0 #[.val (.ref a), .val (.int (0 : Int32)), .val (.ref b), .val (.int (0 : Int32)), .val (.int (1 : Int32)), .unset, .unset] [] := by first | (simp [entryFrame, mkF, argsToLocals, Value.category, maxLocals]; done) | rfl
def QrmCp1_0 (Z : State) (wcs : Int32) (a : Addr) (ka : ClassId) (b : Addr) (kb : ClassId) (v0 : Int32) (h0 : Heap) (n0 : Nat) (v : Option Value) (h : Heap) (L : List Loc) : Prop := v = some (.int (0 : Int32)) ∧ Fr n0 L ∧ Keep h0 h [b] ∧ Exa Z h b "[B"
set_option maxRecDepth 65536 in
set_option maxHeartbeats 40000000 in
theorem rmCp1_0 (l : Launch) (Z : State) (a0 : Array Value) (hw : own_H a0 Z) (ws : List Jvm.Cond) (wcs : Int32) (hS : own_S Z wcs) (a : Addr) (ka : ClassId) (b : Addr) (kb : ClassId) (v0 : Int32) (h0 : Heap) (n0 : Nat) (O0 : Old Z n0 h0) (Ea : Exa Z h0 a "[C") (Eb : Exa Z h0 b "[B") (gb : n0 ≤ b) (A1 : Arv Z h0 a ka .char (1 : Int32) [(.int v0)] (.int (0 : Int32))) (A2 : Arv Z h0 b kb .byte (1 : Int32) [(.int (0 : Int32))] (.int (0 : Int32))) (q0 : (255 : Int32) < v0) :
    own_Met l own_y_14 jdk_52_method_21_code 7 (some .int) ws ({ frames := 0, cells := 0, slots := 0, locals := 0 } : Room) Z h0 #[(.ref a), (.int (0 : Int32)), (.ref b), (.int (0 : Int32)), (.int (1 : Int32))] (QrmCp1_0 Z wcs a ka b kb v0 h0 n0) := by
  refine own_body (plainFor_of_name own_pn_15) ?_
  intro p e s m below meth c s₁ hx hby hml hown hnm hret hlk hZ e0 X0
  have N0 := Fr.nil n0
  refine own_st (fun u_ k_ => castTop (own_ef_rmCp1_0 m a b) k_) ?_
  show own_Go p e below _ (s₁.setTop (mkF m 0 #[.val (.ref a), .val (.int (0 : Int32)), .val (.ref b), .val (.int (0 : Int32)), .val (.int (1 : Int32)), .unset, .unset] []))
  refine own_st (fun u_ k_ => XS.iconst X0.here hx rfl (hb hby own_d_jdk_52_21_0) k_) ?_
  show own_Go p e below _ (s₁.setTop (mkF m 1 #[.val (.ref a), .val (.int (0 : Int32)), .val (.ref b), .val (.int (0 : Int32)), .val (.int (1 : Int32)), .unset, .unset] [(.int (0 : Int32))]))
  refine own_st (fun u_ k_ => XS.istore X0.here hx rfl (hb hby own_d_jdk_52_21_1) rfl (l' := #[.val (.ref a), .val (.int (0 : Int32)), .val (.ref b), .val (.int (0 : Int32)), .val (.int (1 : Int32)), .val (.int (0 : Int32)), .unset]) rfl k_) ?_
  show own_Go p e below _ (s₁.setTop (mkF m 3 #[.val (.ref a), .val (.int (0 : Int32)), .val (.ref b), .val (.int (0 : Int32)), .val (.int (1 : Int32)), .val (.int (0 : Int32)), .unset] []))
  refine own_st (fun u_ k_ => XS.iload X0.here hx rfl (hb hby own_d_jdk_52_21_3) rfl k_) ?_
  show own_Go p e below _ (s₁.setTop (mkF m 5 #[.val (.ref a), .val (.int (0 : Int32)), .val (.ref b), .val (.int (0 : Int32)), .val (.int (1 : Int32)), .val (.int (0 : Int32)), .unset] [(.int (0 : Int32))]))
  refine own_st (fun u_ k_ => XS.iload X0.here hx rfl (hb hby own_d_jdk_52_21_5) rfl k_) ?_
  show own_Go p e below _ (s₁.setTop (mkF m 7 #[.val (.ref a), .val (.int (0 : Int32)), .val (.ref b), .val (.int (0 : Int32)), .val (.int (1 : Int32)), .val (.int (0 : Int32)), .unset] [(.int (1 : Int32)), (.int (0 : Int32))]))
  refine own_st (fun u_ k_ => XS.icmpNo X0.here hx rfl (hb hby own_d_jdk_52_21_7) rfl (XT.ii_ge_f (by decide)) k_) ?_
  show own_Go p e below _ (s₁.setTop (mkF m 10 #[.val (.ref a), .val (.int (0 : Int32)), .val (.ref b), .val (.int (0 : Int32)), .val (.int (1 : Int32)), .val (.int (0 : Int32)), .unset] []))
  refine own_st (fun u_ k_ => XS.aloadN X0.here hx rfl (hb hby own_d_jdk_52_21_10) rfl rfl k_) ?_
  show own_Go p e below _ (s₁.setTop (mkF m 11 #[.val (.ref a), .val (.int (0 : Int32)), .val (.ref b), .val (.int (0 : Int32)), .val (.int (1 : Int32)), .val (.int (0 : Int32)), .unset] [(.ref a)]))
  refine own_st (fun u_ k_ => XS.iloadN X0.here hx rfl (hb hby own_d_jdk_52_21_11) rfl k_) ?_
  show own_Go p e below _ (s₁.setTop (mkF m 12 #[.val (.ref a), .val (.int (0 : Int32)), .val (.ref b), .val (.int (0 : Int32)), .val (.int (1 : Int32)), .val (.int (0 : Int32)), .unset] [(.int (0 : Int32)), (.ref a)]))
  obtain ⟨cl1, Ar1, q1, S1, N1, H1, G1⟩ := id A1
  have hi1 : ¬ ((0 : Int32) < 0 ∨ cl1.slots.size ≤ ((0 : Int32)).toNatClampNeg) := inb_of S1 ⟨by decide, by decide⟩
  have ha1 : cl1.slots[((0 : Int32)).toNatClampNeg]? = some (.int v0) := H1.at hi1 rfl
  refine own_st (X0.caload hx (j := (0 : Int32)) (v := (.int v0)) (by rw [e0]; exact Ar1.1) (State.isArrayOf_alike hZ.alike Ar1.2.1) Ar1.2.2 hi1 ha1 (g := (mkF m 12 #[.val (.ref a), .val (.int (0 : Int32)), .val (.ref b), .val (.int (0 : Int32)), .val (.int (1 : Int32)), .val (.int (0 : Int32)), .unset] [(.int (0 : Int32)), (.ref a)])) rfl rfl (hb hby own_d_jdk_52_21_12)) ?_
  show own_Go p e below _ (s₁.setTop (mkF m 13 #[.val (.ref a), .val (.int (0 : Int32)), .val (.ref b), .val (.int (0 : Int32)), .val (.int (1 : Int32)), .val (.int (0 : Int32)), .unset] [(.int v0)]))
  refine own_st (fun u_ k_ => XS.istore X0.here hx rfl (hb hby own_d_jdk_52_21_13) rfl (l' := #[.val (.ref a), .val (.int (0 : Int32)), .val (.ref b), .val (.int (0 : Int32)), .val (.int (1 : Int32)), .val (.int (0 : Int32)), .val (.int v0)]) rfl k_) ?_
  show own_Go p e below _ (s₁.setTop (mkF m 15 #[.val (.ref a), .val (.int (0 : Int32)), .val (.ref b), .val (.int (0 : Int32)), .val (.int (1 : Int32)), .val (.int (0 : Int32)), .val (.int v0)] []))
  refine own_st (fun u_ k_ => XS.iload X0.here hx rfl (hb hby own_d_jdk_52_21_15) rfl k_) ?_
  show own_Go p e below _ (s₁.setTop (mkF m 17 #[.val (.ref a), .val (.int (0 : Int32)), .val (.ref b), .val (.int (0 : Int32)), .val (.int (1 : Int32)), .val (.int (0 : Int32)), .val (.int v0)] [(.int v0)]))
  refine own_st (fun u_ k_ => XS.sipush X0.here hx rfl (hb hby own_d_jdk_52_21_17) k_) ?_
  show own_Go p e below _ (s₁.setTop (mkF m 20 #[.val (.ref a), .val (.int (0 : Int32)), .val (.ref b), .val (.int (0 : Int32)), .val (.int (1 : Int32)), .val (.int (0 : Int32)), .val (.int v0)] [(.int (255 : Int32)), (.int v0)]))
  refine own_st (fun u_ k_ => XS.icmpNo X0.here hx rfl (hb hby own_d_jdk_52_21_20) rfl (XT.ii_le_f q0) k_) ?_
  show own_Go p e below _ (s₁.setTop (mkF m 23 #[.val (.ref a), .val (.int (0 : Int32)), .val (.ref b), .val (.int (0 : Int32)), .val (.int (1 : Int32)), .val (.int (0 : Int32)), .val (.int v0)] []))
  refine own_st (fun u_ k_ => XS.iload X0.here hx rfl (hb hby own_d_jdk_52_21_23) rfl k_) ?_
  show own_Go p e below _ (s₁.setTop (mkF m 25 #[.val (.ref a), .val (.int (0 : Int32)), .val (.ref b), .val (.int (0 : Int32)), .val (.int (1 : Int32)), .val (.int (0 : Int32)), .val (.int v0)] [(.int (0 : Int32))]))
  exact own_retX X0 hx hlk hret rfl (Or.inl ⟨rfl, by simp, _, rfl⟩) (hb hby own_d_jdk_52_21_25) (by decide) (by decide) (show QrmCp1_0 Z wcs a ka b kb v0 h0 n0 (some (.int (0 : Int32))) s₁.heap _ from (by rw [e0]; exact ⟨rfl, N0, (Keep.refl h0 [b]), Eb⟩))
theorem own_d_jdk_52_3_0 : decode jdk_52_method_3_code 0 = .ok (.iload_n 0, 1) := by decide +kernel
theorem own_d_jdk_52_3_1 : decode jdk_52_method_3_code 1 = .ok (.ifCond .ge 11, 3) := by decide +kernel
theorem own_d_jdk_52_3_12 : decode jdk_52_method_3_code 12 = .ok (.iload_n 0, 1) := by decide +kernel
theorem own_d_jdk_52_3_13 : decode jdk_52_method_3_code 13 = .ok (.ldc 20, 2) := by decide +kernel
theorem own_d_jdk_52_3_15 : decode jdk_52_method_3_code 15 = .ok (.if_icmp .lt 40, 3) := by decide +kernel
theorem own_d_jdk_52_3_55 : decode jdk_52_method_3_code 55 = .ok (.iload_n 0, 1) := by decide +kernel
theorem own_d_jdk_52_3_56 : decode jdk_52_method_3_code 56 = .ok (.iconst 1, 1) := by decide +kernel
theorem own_d_jdk_52_3_57 : decode jdk_52_method_3_code 57 = .ok (.ishl, 1) := by decide +kernel
theorem own_d_jdk_52_3_58 : decode jdk_52_method_3_code 58 = .ok (.ireturn, 1) := by decide +kernel
abbrev own_y_25 : MethodName := ⟨"java/lang/StringUTF16", "newBytesLength", "(I)I"⟩
theorem own_ef_rmNL1 (m : MethodId)   : entryFrame m #[(.int (1 : Int32))] 1 = mkF m 0 #[.val (.int (1 : Int32))] [] := by first | (simp [entryFrame, mkF, argsToLocals, Value.category, maxLocals]; done) | rfl
def QrmNL1 (Z : State) (wcs : Int32)  (h0 : Heap) (n0 : Nat) (v : Option Value) (h : Heap) (L : List Loc) : Prop := v = some (.int (2 : Int32)) ∧ Fr n0 L ∧ h = h0
set_option maxRecDepth 65536 in
set_option maxHeartbeats 40000000 in
theorem rmNL1 (l : Launch) (Z : State) (a0 : Array Value) (hw : own_H a0 Z) (ws : List Jvm.Cond) (wcs : Int32) (hS : own_S Z wcs)  (h0 : Heap) (n0 : Nat) (O0 : Old Z n0 h0)  :
    own_Met l own_y_25 jdk_52_method_3_code 1 (some .int) ws ({ frames := 0, cells := 0, slots := 0, locals := 0 } : Room) Z h0 #[(.int (1 : Int32))] (QrmNL1 Z wcs  h0 n0) := by
  refine own_body (plainFor_of_name own_pn_15) ?_
  intro p e s m below meth c s₁ hx hby hml hown hnm hret hlk hZ e0 X0
  have N0 := Fr.nil n0
  refine own_st (fun u_ k_ => castTop (own_ef_rmNL1 m ) k_) ?_
  show own_Go p e below _ (s₁.setTop (mkF m 0 #[.val (.int (1 : Int32))] []))
  refine own_st (fun u_ k_ => XS.iloadN X0.here hx rfl (hb hby own_d_jdk_52_3_0) rfl k_) ?_
  show own_Go p e below _ (s₁.setTop (mkF m 1 #[.val (.int (1 : Int32))] [(.int (1 : Int32))]))
  refine own_st (fun u_ k_ => XS.ifYes X0.here hx rfl (pc0 := 1) (pc' := 12) rfl (hb hby own_d_jdk_52_3_1) rfl (XT.i0_ge_t (by decide)) (by decide) (by decide) k_) ?_
  show own_Go p e below _ (s₁.setTop (mkF m 12 #[.val (.int (1 : Int32))] []))
  refine own_st (fun u_ k_ => XS.iloadN X0.here hx rfl (hb hby own_d_jdk_52_3_12) rfl k_) ?_
  show own_Go p e below _ (s₁.setTop (mkF m 13 #[.val (.int (1 : Int32))] [(.int (1 : Int32))]))
  refine own_st (X0.ldcInt hx hown (mvT hZ (own_w hw 68 rfl)) (g := (mkF m 13 #[.val (.int (1 : Int32))] [(.int (1 : Int32))])) rfl (hb hby own_d_jdk_52_3_13)) ?_
  show own_Go p e below _ (s₁.setTop (mkF m 15 #[.val (.int (1 : Int32))] [(.int (1073741823 : Int32)), (.int (1 : Int32))]))
  refine own_st (fun u_ k_ => XS.icmpYes X0.here hx rfl (pc0 := 15) (pc' := 55) rfl (hb hby own_d_jdk_52_3_15) rfl (XT.ii_lt_t (by decide)) (by decide) (by decide) k_) ?_
  show own_Go p e below _ (s₁.setTop (mkF m 55 #[.val (.int (1 : Int32))] []))
  refine own_st (fun u_ k_ => XS.iloadN X0.here hx rfl (hb hby own_d_jdk_52_3_55) rfl k_) ?_
  show own_Go p e below _ (s₁.setTop (mkF m 56 #[.val (.int (1 : Int32))] [(.int (1 : Int32))]))
  refine own_st (fun u_ k_ => XS.iconst X0.here hx rfl (hb hby own_d_jdk_52_3_56) k_) ?_
  show own_Go p e below _ (s₁.setTop (mkF m 57 #[.val (.int (1 : Int32))] [(.int (1 : Int32)), (.int (1 : Int32))]))
  refine own_st (fun u_ k_ => XS.ishl X0.here hx rfl (hb hby own_d_jdk_52_3_57) rfl k_) ?_
  show own_Go p e below _ (s₁.setTop (mkF m 58 #[.val (.int (1 : Int32))] [(.int (2 : Int32))]))
  exact own_retX X0 hx hlk hret rfl (Or.inl ⟨rfl, by simp, _, rfl⟩) (hb hby own_d_jdk_52_3_58) (by decide) (by decide) (show QrmNL1 Z wcs  h0 n0 (some (.int (2 : Int32))) s₁.heap _ from (by rw [e0]; exact ⟨rfl, N0, rfl⟩))
theorem own_d_jdk_52_2_0 : decode jdk_52_method_2_code 0 = .ok (.iload_n 0, 1) := by decide +kernel
theorem own_d_jdk_52_2_1 : decode jdk_52_method_2_code 1 = .ok (.invokestatic 11, 3) := by decide +kernel
theorem own_lm_28 : ("java/lang/StringUTF16" : String) ≠ "java/lang/invoke/MethodHandle" ∧ ("java/lang/StringUTF16" : String) ≠ "java/lang/invoke/VarHandle" := by decide +kernel
theorem own_pd_29 : parseMethodDescriptor "(I)I" = some ⟨[.int], some .int⟩ := by decide +kernel
theorem own_d_jdk_52_2_4 : decode jdk_52_method_2_code 4 = .ok (.newarray .byte, 2) := by decide +kernel
theorem own_lm_31 : "[" ++ (newarray.typeOf .byte).toString = "[B" := by decide +kernel
theorem own_d_jdk_52_2_6 : decode jdk_52_method_2_code 6 = .ok (.areturn, 1) := by decide +kernel
abbrev own_y_33 : MethodName := ⟨"java/lang/StringUTF16", "newBytesFor", "(I)[B"⟩
theorem own_ef_rmNB1 (m : MethodId)   : entryFrame m #[(.int (1 : Int32))] 1 = mkF m 0 #[.val (.int (1 : Int32))] [] := by first | (simp [entryFrame, mkF, argsToLocals, Value.category, maxLocals]; done) | rfl
def QrmNB1 (Z : State) (wcs : Int32)  (h0 : Heap) (n0 : Nat) (v : Option Value) (h : Heap) (L : List Loc) : Prop := ∃ r : Addr, ∃ kr : ClassId, v = some (.ref r) ∧ Fr n0 L ∧ Keep h0 h [] ∧ h0.size ≤ r ∧ Exa Z h r "[B" ∧ Arv Z h r kr .byte (2 : Int32) [(.int (0 : Int32)), (.int (0 : Int32))] (.int (0 : Int32))
set_option maxRecDepth 65536 in
set_option maxHeartbeats 40000000 in
theorem rmNB1 (l : Launch) (Z : State) (a0 : Array Value) (hw : own_H a0 Z) (ws : List Jvm.Cond) (wcs : Int32) (hS : own_S Z wcs)  (h0 : Heap) (n0 : Nat) (O0 : Old Z n0 h0)  :
    own_Met l own_y_33 jdk_52_method_2_code 1 (some (.array .byte)) ws ({ frames := 1, cells := 1, slots := 2, locals := 12 } : Room) Z h0 #[(.int (1 : Int32))] (QrmNB1 Z wcs  h0 n0) := by
  refine own_body (plainFor_of_name own_pn_15) ?_
  intro p e s m below meth c s₁ hx hby hml hown hnm hret hlk hZ e0 X0
  have N0 := Fr.nil n0
  refine own_st (fun u_ k_ => castTop (own_ef_rmNB1 m ) k_) ?_
  show own_Go p e below _ (s₁.setTop (mkF m 0 #[.val (.int (1 : Int32))] []))
  refine own_st (fun u_ k_ => XS.iloadN X0.here hx rfl (hb hby own_d_jdk_52_2_0) rfl k_) ?_
  show own_Go p e below _ (s₁.setTop (mkF m 1 #[.val (.int (1 : Int32))] [(.int (1 : Int32))]))
  obtain ⟨T2, v2, L2, X2, hQ2, st2⟩ := own_callS X0 hx hZ (y := own_y_25) hown (own_w hw 65 rfl) (own_w hw 66 rfl) (own_w hw 18 rfl) (own_w hw 67 rfl) own_lm_28 (rmNL1 l Z a0 hw [] wcs hS  h0 n0 O0 ) e0 own_pd_29 (argsL := [(.int (1 : Int32))]) (rest := []) rfl rfl (g := (mkF m 1 #[.val (.int (1 : Int32))] [(.int (1 : Int32))])) rfl (by rw [hml]; rfl) rfl (hb hby own_d_jdk_52_2_1) (W := 0) rfl (by decide) (by decide) (by decide) (by decide)
  obtain ⟨rfl, M2, e2⟩ := hQ2
  have N2 := Fr.app N0 M2
  refine own_st (fun u_ k_ => st2 u_ k_) ?_
  show own_Go p e below _ (T2.setTop (mkF m 4 #[.val (.int (1 : Int32))] [(.int (2 : Int32))]))
  obtain ⟨T3, h3, k3, X3, e3, E3, A3, Y3, st3⟩ := newPE X2 hx hZ (own_w hw 20 rfl) e2 (g := (mkF m 4 #[.val (.int (1 : Int32))] [(.int (2 : Int32))])) rfl (hb hby own_d_jdk_52_2_4) rfl (by decide) (cap := 2) (by decide) (by decide) (by decide) (by decide) (ad := "[B") own_lm_31
  obtain ⟨b3, g3⟩ : ∃ z, z = h0.size := ⟨_, rfl⟩
  rw [← g3] at A3 Y3 st3
  have V3 : Arv Z h3 b3 k3 .byte (2 : Int32) [(.int (0 : Int32)), (.int (0 : Int32))] (.int (0 : Int32)) := (Arv.new A3 (by decide)).pad (pad_rep [] (.int (0 : Int32)) 2)
  refine own_st (fun u_ k_ => st3 u_ k_) ?_
  show own_Go p e below _ (T3.setTop (mkF m 6 #[.val (.int (1 : Int32))] [(.ref b3)]))
  have K4 : Keep h0 h3 [] := (Keep.refl h0 []).ext E3
  have z5 : h0.size ≤ b3 := Nat.le_trans (Nat.le_refl _) (Nat.le_of_eq g3.symm)
  exact own_retX X3 hx hlk hret rfl (Or.inr (Or.inr (Or.inr (Or.inr ⟨rfl, rfl, rfl⟩)))) (hb hby own_d_jdk_52_2_6) (by decide) (by decide) (show QrmNB1 Z wcs  h0 n0 (some (.ref b3)) T3.heap _ from (by rw [e3]; exact ⟨b3, k3, rfl, N2, K4, z5, Y3, V3⟩))
theorem own_d_jdk_52_4_0 : decode jdk_52_method_4_code 0 = .ok (.getstatic 44, 3) := by decide +kernel
theorem own_d_jdk_52_4_3 : decode jdk_52_method_4_code 3 = .ok (.ifCond .ne 25, 3) := by decide +kernel
theorem own_d_jdk_52_4_28 : decode jdk_52_method_4_code 28 = .ok (.iload_n 1, 1) := by decide +kernel
theorem own_d_jdk_52_4_29 : decode jdk_52_method_4_code 29 = .ok (.iconst 1, 1) := by decide +kernel
theorem own_d_jdk_52_4_30 : decode jdk_52_method_4_code 30 = .ok (.ishl, 1) := by decide +kernel
theorem own_d_jdk_52_4_31 : decode jdk_52_method_4_code 31 = .ok (.istore_n 1, 1) := by decide +kernel
theorem own_d_jdk_52_4_32 : decode jdk_52_method_4_code 32 = .ok (.aload_n 0, 1) := by decide +kernel
theorem own_d_jdk_52_4_33 : decode jdk_52_method_4_code 33 = .ok (.iload_n 1, 1) := by decide +kernel
theorem own_d_jdk_52_4_34 : decode jdk_52_method_4_code 34 = .ok (.iinc 1 1, 3) := by decide +kernel
theorem own_d_jdk_52_4_37 : decode jdk_52_method_4_code 37 = .ok (.iload_n 2, 1) := by decide +kernel
theorem own_d_jdk_52_4_38 : decode jdk_52_method_4_code 38 = .ok (.getstatic 59, 3) := by decide +kernel
theorem own_d_jdk_52_4_41 : decode jdk_52_method_4_code 41 = .ok (.ishr, 1) := by decide +kernel
theorem own_d_jdk_52_4_42 : decode jdk_52_method_4_code 42 = .ok (.i2b, 1) := by decide +kernel
theorem own_d_jdk_52_4_43 : decode jdk_52_method_4_code 43 = .ok (.bastore, 1) := by decide +kernel
theorem own_d_jdk_52_4_44 : decode jdk_52_method_4_code 44 = .ok (.aload_n 0, 1) := by decide +kernel
theorem own_d_jdk_52_4_45 : decode jdk_52_method_4_code 45 = .ok (.iload_n 1, 1) := by decide +kernel
theorem own_d_jdk_52_4_46 : decode jdk_52_method_4_code 46 = .ok (.iload_n 2, 1) := by decide +kernel
theorem own_d_jdk_52_4_47 : decode jdk_52_method_4_code 47 = .ok (.getstatic 63, 3) := by decide +kernel
theorem own_d_jdk_52_4_50 : decode jdk_52_method_4_code 50 = .ok (.ishr, 1) := by decide +kernel
theorem own_d_jdk_52_4_51 : decode jdk_52_method_4_code 51 = .ok (.i2b, 1) := by decide +kernel
theorem own_d_jdk_52_4_52 : decode jdk_52_method_4_code 52 = .ok (.bastore, 1) := by decide +kernel
theorem own_d_jdk_52_4_53 : decode jdk_52_method_4_code 53 = .ok (.return_, 1) := by decide +kernel
abbrev own_y_56 : MethodName := ⟨"java/lang/StringUTF16", "putChar", "([BII)V"⟩
theorem own_ef_rmPC1_0 (m : MethodId) (b : Addr) (cv : Int32)  : entryFrame m #[(.ref b), (.int (0 : Int32)), (.int cv)] 3 = mkF m 0 #[.val (.ref b), .val (.int (0 : Int32)), .val (.int cv)] [] := by first | (simp [entryFrame, mkF, argsToLocals, Value.category, maxLocals]; done) | rfl
def QrmPC1_0 (Z : State) (wcs : Int32) (b : Addr) (kb : ClassId) (cv : Int32) (u0 : Int32) (u1 : Int32) (h0 : Heap) (n0 : Nat) (v : Option Value) (h : Heap) (L : List Loc) : Prop := v = none ∧ Fr n0 L ∧ Keep h0 h [b] ∧ Exa Z h b "[B" ∧ Arv Z h b kb .byte (2 : Int32) [(.int ((cv >>> ((0 : Int32) &&& 31)).toInt8.toInt32)), (.int ((cv >>> ((8 : Int32) &&& 31)).toInt8.toInt32))] (.int (0 : Int32))
set_option maxRecDepth 65536 in
set_option maxHeartbeats 40000000 in
theorem rmPC1_0 (l : Launch) (Z : State) (a0 : Array Value) (hw : own_H a0 Z) (ws : List Jvm.Cond) (wcs : Int32) (hS : own_S Z wcs) (b : Addr) (kb : ClassId) (cv : Int32) (u0 : Int32) (u1 : Int32) (h0 : Heap) (n0 : Nat) (O0 : Old Z n0 h0) (Eb : Exa Z h0 b "[B") (gb : n0 ≤ b) (A2 : Arv Z h0 b kb .byte (2 : Int32) [(.int u0), (.int u1)] (.int (0 : Int32))) :
    own_Met l own_y_56 jdk_52_method_4_code 3 none ws ({ frames := 0, cells := 0, slots := 0, locals := 0 } : Room) Z h0 #[(.ref b), (.int (0 : Int32)), (.int cv)] (QrmPC1_0 Z wcs b kb cv u0 u1 h0 n0) := by
  refine own_body (plainFor_of_name own_pn_15) ?_
  intro p e s m below meth c s₁ hx hby hml hown hnm hret hlk hZ e0 X0
  have N0 := Fr.nil n0
  refine own_st (fun u_ k_ => castTop (own_ef_rmPC1_0 m b cv) k_) ?_
  show own_Go p e below _ (s₁.setTop (mkF m 0 #[.val (.ref b), .val (.int (0 : Int32)), .val (.int cv)] []))
  have F6 := Sta.ext O0.2 hS.2.2.1
  obtain ⟨T7, X7, e7, st7⟩ := getS2 X0 hx hZ hown (host := "") (Or.inl (own_w hw 72 rfl)) Via.refl e0 F6 (g := (mkF m 0 #[.val (.ref b), .val (.int (0 : Int32)), .val (.int cv)] [])) rfl (hb hby own_d_jdk_52_4_0)
  refine own_st (fun u_ k_ => st7 u_ k_) ?_
  show own_Go p e below _ (T7.setTop (mkF m 3 #[.val (.ref b), .val (.int (0 : Int32)), .val (.int cv)] [(.int (1 : Int32))]))
  refine own_st (fun u_ k_ => XS.ifYes X7.here hx rfl (pc0 := 3) (pc' := 28) rfl (hb hby own_d_jdk_52_4_3) rfl (XT.i0_ne_t (by decide)) (by decide) (by decide) k_) ?_
  show own_Go p e below _ (T7.setTop (mkF m 28 #[.val (.ref b), .val (.int (0 : Int32)), .val (.int cv)] []))
  refine own_st (fun u_ k_ => XS.iloadN X7.here hx rfl (hb hby own_d_jdk_52_4_28) rfl k_) ?_
  show own_Go p e below _ (T7.setTop (mkF m 29 #[.val (.ref b), .val (.int (0 : Int32)), .val (.int cv)] [(.int (0 : Int32))]))
  refine own_st (fun u_ k_ => XS.iconst X7.here hx rfl (hb hby own_d_jdk_52_4_29) k_) ?_
  show own_Go p e below _ (T7.setTop (mkF m 30 #[.val (.ref b), .val (.int (0 : Int32)), .val (.int cv)] [(.int (1 : Int32)), (.int (0 : Int32))]))
  refine own_st (fun u_ k_ => XS.ishl X7.here hx rfl (hb hby own_d_jdk_52_4_30) rfl k_) ?_
  show own_Go p e below _ (T7.setTop (mkF m 31 #[.val (.ref b), .val (.int (0 : Int32)), .val (.int cv)] [(.int (0 : Int32))]))
  refine own_st (fun u_ k_ => XS.istoreN X7.here hx rfl (hb hby own_d_jdk_52_4_31) rfl (l' := #[.val (.ref b), .val (.int (0 : Int32)), .val (.int cv)]) rfl k_) ?_
  show own_Go p e below _ (T7.setTop (mkF m 32 #[.val (.ref b), .val (.int (0 : Int32)), .val (.int cv)] []))
  refine own_st (fun u_ k_ => XS.aloadN X7.here hx rfl (hb hby own_d_jdk_52_4_32) rfl rfl k_) ?_
  show own_Go p e below _ (T7.setTop (mkF m 33 #[.val (.ref b), .val (.int (0 : Int32)), .val (.int cv)] [(.ref b)]))
  refine own_st (fun u_ k_ => XS.iloadN X7.here hx rfl (hb hby own_d_jdk_52_4_33) rfl k_) ?_
  show own_Go p e below _ (T7.setTop (mkF m 34 #[.val (.ref b), .val (.int (0 : Int32)), .val (.int cv)] [(.int (0 : Int32)), (.ref b)]))
  refine own_st (fun u_ k_ => XS.iinc X7.here hx rfl (hb hby own_d_jdk_52_4_34) rfl (l' := #[.val (.ref b), .val (.int (1 : Int32)), .val (.int cv)]) rfl k_) ?_
  show own_Go p e below _ (T7.setTop (mkF m 37 #[.val (.ref b), .val (.int (1 : Int32)), .val (.int cv)] [(.int (0 : Int32)), (.ref b)]))
  refine own_st (fun u_ k_ => XS.iloadN X7.here hx rfl (hb hby own_d_jdk_52_4_37) rfl k_) ?_
  show own_Go p e below _ (T7.setTop (mkF m 38 #[.val (.ref b), .val (.int (1 : Int32)), .val (.int cv)] [(.int cv), (.int (0 : Int32)), (.ref b)]))
  have F8 := Sta.ext O0.2 hS.2.2.2.1
  obtain ⟨T9, X9, e9, st9⟩ := getS2 X7 hx hZ hown (host := "") (Or.inl (own_w hw 73 rfl)) Via.refl e7 F8 (g := (mkF m 38 #[.val (.ref b), .val (.int (1 : Int32)), .val (.int cv)] [(.int cv), (.int (0 : Int32)), (.ref b)])) rfl (hb hby own_d_jdk_52_4_38)
  refine own_st (fun u_ k_ => st9 u_ k_) ?_
  show own_Go p e below _ (T9.setTop (mkF m 41 #[.val (.ref b), .val (.int (1 : Int32)), .val (.int cv)] [(.int (0 : Int32)), (.int cv), (.int (0 : Int32)), (.ref b)]))
  refine own_st (fun u_ k_ => XS.ishr X9.here hx rfl (hb hby own_d_jdk_52_4_41) rfl k_) ?_
  show own_Go p e below _ (T9.setTop (mkF m 42 #[.val (.ref b), .val (.int (1 : Int32)), .val (.int cv)] [(.int (cv >>> ((0 : Int32) &&& 31))), (.int (0 : Int32)), (.ref b)]))
  refine own_st (fun u_ k_ => XS.i2b X9.here hx rfl (hb hby own_d_jdk_52_4_42) rfl k_) ?_
  show own_Go p e below _ (T9.setTop (mkF m 43 #[.val (.ref b), .val (.int (1 : Int32)), .val (.int cv)] [(.int ((cv >>> ((0 : Int32) &&& 31)).toInt8.toInt32)), (.int (0 : Int32)), (.ref b)]))
  obtain ⟨cl10, Ar10, q10, S10, N10, H10, G10⟩ := id A2
  have hi10 : ¬ ((0 : Int32) < 0 ∨ cl10.slots.size ≤ ((0 : Int32)).toNatClampNeg) := inb_of S10 ⟨by decide, by decide⟩
  obtain ⟨T11, h11, X11, e11, W11, st11⟩ := stB X9 hx hZ e9 Ar10 (j := (0 : Int32)) hi10 (g := (mkF m 43 #[.val (.ref b), .val (.int (1 : Int32)), .val (.int cv)] [(.int ((cv >>> ((0 : Int32) &&& 31)).toInt8.toInt32)), (.int (0 : Int32)), (.ref b)])) rfl rfl (hb hby own_d_jdk_52_4_43)
  rw [own_bb] at W11
  have N11 := Fr.snoc X11 N0 gb
  have V11 : Arv Z h11 b kb .byte (2 : Int32) [(.int ((cv >>> ((0 : Int32) &&& 31)).toInt8.toInt32)), (.int u1)] (.int (0 : Int32)) := Arv.set Ar10 q10 S10 N10 H10 G10 (fits_nar_byte _) W11 0 rfl (Nat.le_of_ble_eq_true rfl)
  refine own_st (fun u_ k_ => st11 u_ k_) ?_
  show own_Go p e below _ (T11.setTop (mkF m 44 #[.val (.ref b), .val (.int (1 : Int32)), .val (.int cv)] []))
  refine own_st (fun u_ k_ => XS.aloadN X11.here hx rfl (hb hby own_d_jdk_52_4_44) rfl rfl k_) ?_
  show own_Go p e below _ (T11.setTop (mkF m 45 #[.val (.ref b), .val (.int (1 : Int32)), .val (.int cv)] [(.ref b)]))
  refine own_st (fun u_ k_ => XS.iloadN X11.here hx rfl (hb hby own_d_jdk_52_4_45) rfl k_) ?_
  show own_Go p e below _ (T11.setTop (mkF m 46 #[.val (.ref b), .val (.int (1 : Int32)), .val (.int cv)] [(.int (1 : Int32)), (.ref b)]))
  refine own_st (fun u_ k_ => XS.iloadN X11.here hx rfl (hb hby own_d_jdk_52_4_46) rfl k_) ?_
  show own_Go p e below _ (T11.setTop (mkF m 47 #[.val (.ref b), .val (.int (1 : Int32)), .val (.int cv)] [(.int cv), (.int (1 : Int32)), (.ref b)]))
  have O12 : Old Z n0 h11 := O0.wr W11 gb
  have F13 := Sta.ext O12.2 hS.2.2.2.2
  obtain ⟨T14, X14, e14, st14⟩ := getS2 X11 hx hZ hown (host := "") (Or.inl (own_w hw 74 rfl)) Via.refl e11 F13 (g := (mkF m 47 #[.val (.ref b), .val (.int (1 : Int32)), .val (.int cv)] [(.int cv), (.int (1 : Int32)), (.ref b)])) rfl (hb hby own_d_jdk_52_4_47)
  refine own_st (fun u_ k_ => st14 u_ k_) ?_
  show own_Go p e below _ (T14.setTop (mkF m 50 #[.val (.ref b), .val (.int (1 : Int32)), .val (.int cv)] [(.int (8 : Int32)), (.int cv), (.int (1 : Int32)), (.ref b)]))
  refine own_st (fun u_ k_ => XS.ishr X14.here hx rfl (hb hby own_d_jdk_52_4_50) rfl k_) ?_
  show own_Go p e below _ (T14.setTop (mkF m 51 #[.val (.ref b), .val (.int (1 : Int32)), .val (.int cv)] [(.int (cv >>> ((8 : Int32) &&& 31))), (.int (1 : Int32)), (.ref b)]))
  refine own_st (fun u_ k_ => XS.i2b X14.here hx rfl (hb hby own_d_jdk_52_4_51) rfl k_) ?_
  show own_Go p e below _ (T14.setTop (mkF m 52 #[.val (.ref b), .val (.int (1 : Int32)), .val (.int cv)] [(.int ((cv >>> ((8 : Int32) &&& 31)).toInt8.toInt32)), (.int (1 : Int32)), (.ref b)]))
  obtain ⟨cl15, Ar15, q15, S15, N15, H15, G15⟩ := id V11
  have hi15 : ¬ ((1 : Int32) < 0 ∨ cl15.slots.size ≤ ((1 : Int32)).toNatClampNeg) := inb_of S15 ⟨by decide, by decide⟩
  obtain ⟨T16, h16, X16, e16, W16, st16⟩ := stB X14 hx hZ e14 Ar15 (j := (1 : Int32)) hi15 (g := (mkF m 52 #[.val (.ref b), .val (.int (1 : Int32)), .val (.int cv)] [(.int ((cv >>> ((8 : Int32) &&& 31)).toInt8.toInt32)), (.int (1 : Int32)), (.ref b)])) rfl rfl (hb hby own_d_jdk_52_4_52)
  rw [own_bb] at W16
  have N16 := Fr.snoc X16 N11 gb
  have V16 : Arv Z h16 b kb .byte (2 : Int32) [(.int ((cv >>> ((0 : Int32) &&& 31)).toInt8.toInt32)), (.int ((cv >>> ((8 : Int32) &&& 31)).toInt8.toInt32))] (.int (0 : Int32)) := Arv.set Ar15 q15 S15 N15 H15 G15 (fits_nar_byte _) W16 1 rfl (Nat.le_of_ble_eq_true rfl)
  refine own_st (fun u_ k_ => st16 u_ k_) ?_
  show own_Go p e below _ (T16.setTop (mkF m 53 #[.val (.ref b), .val (.int (1 : Int32)), .val (.int cv)] []))
  have K17 : Keep h0 h11 [b] := (Keep.refl h0 [b]).wr W11 (Or.inl (List.mem_of_getElem? (i := 0) rfl))
  have K18 : Keep h0 h16 [b] := K17.wr W16 (Or.inl (List.mem_of_getElem? (i := 0) rfl))
  have F19 := (Exa.wr W16 (Exa.wr W11 Eb))
  exact own_retV X16 hx hlk hret (hb hby own_d_jdk_52_4_53) (by decide) (by decide) (show QrmPC1_0 Z wcs b kb cv u0 u1 h0 n0 none T16.heap _ from (by rw [e16]; exact ⟨rfl, N16, K18, F19, V16⟩))
theorem own_d_jdk_52_5_0 : decode jdk_52_method_5_code 0 = .ok (.getstatic 44, 3) := by decide +kernel
theorem own_d_jdk_52_5_3 : decode jdk_52_method_5_code 3 = .ok (.ifCond .ne 25, 3) := by decide +kernel
theorem own_d_jdk_52_5_28 : decode jdk_52_method_5_code 28 = .ok (.iload_n 1, 1) := by decide +kernel
theorem own_d_jdk_52_5_29 : decode jdk_52_method_5_code 29 = .ok (.iconst 1, 1) := by decide +kernel
theorem own_d_jdk_52_5_30 : decode jdk_52_method_5_code 30 = .ok (.ishl, 1) := by decide +kernel
theorem own_d_jdk_52_5_31 : decode jdk_52_method_5_code 31 = .ok (.istore_n 1, 1) := by decide +kernel
theorem own_d_jdk_52_5_32 : decode jdk_52_method_5_code 32 = .ok (.aload_n 0, 1) := by decide +kernel
theorem own_d_jdk_52_5_33 : decode jdk_52_method_5_code 33 = .ok (.iload_n 1, 1) := by decide +kernel
theorem own_d_jdk_52_5_34 : decode jdk_52_method_5_code 34 = .ok (.iinc 1 1, 3) := by decide +kernel
theorem own_d_jdk_52_5_37 : decode jdk_52_method_5_code 37 = .ok (.baload, 1) := by decide +kernel
theorem own_d_jdk_52_5_38 : decode jdk_52_method_5_code 38 = .ok (.sipush 255, 3) := by decide +kernel
theorem own_d_jdk_52_5_41 : decode jdk_52_method_5_code 41 = .ok (.iand, 1) := by decide +kernel
theorem own_d_jdk_52_5_42 : decode jdk_52_method_5_code 42 = .ok (.getstatic 59, 3) := by decide +kernel
theorem own_d_jdk_52_5_45 : decode jdk_52_method_5_code 45 = .ok (.ishl, 1) := by decide +kernel
theorem own_d_jdk_52_5_46 : decode jdk_52_method_5_code 46 = .ok (.aload_n 0, 1) := by decide +kernel
theorem own_d_jdk_52_5_47 : decode jdk_52_method_5_code 47 = .ok (.iload_n 1, 1) := by decide +kernel
theorem own_d_jdk_52_5_48 : decode jdk_52_method_5_code 48 = .ok (.baload, 1) := by decide +kernel
theorem own_d_jdk_52_5_49 : decode jdk_52_method_5_code 49 = .ok (.sipush 255, 3) := by decide +kernel
theorem own_d_jdk_52_5_52 : decode jdk_52_method_5_code 52 = .ok (.iand, 1) := by decide +kernel
theorem own_d_jdk_52_5_53 : decode jdk_52_method_5_code 53 = .ok (.getstatic 63, 3) := by decide +kernel
theorem own_d_jdk_52_5_56 : decode jdk_52_method_5_code 56 = .ok (.ishl, 1) := by decide +kernel
theorem own_d_jdk_52_5_57 : decode jdk_52_method_5_code 57 = .ok (.ior, 1) := by decide +kernel
theorem own_d_jdk_52_5_58 : decode jdk_52_method_5_code 58 = .ok (.i2c, 1) := by decide +kernel
theorem own_d_jdk_52_5_59 : decode jdk_52_method_5_code 59 = .ok (.ireturn, 1) := by decide +kernel
abbrev own_y_81 : MethodName := ⟨"java/lang/StringUTF16", "getChar", "([BI)C"⟩
theorem own_ef_rmGC1_0 (m : MethodId) (b : Addr)  : entryFrame m #[(.ref b), (.int (0 : Int32))] 2 = mkF m 0 #[.val (.ref b), .val (.int (0 : Int32))] [] := by first | (simp [entryFrame, mkF, argsToLocals, Value.category, maxLocals]; done) | rfl
def QrmGC1_0 (Z : State) (wcs : Int32) (b : Addr) (kb : ClassId) (u0 : Int32) (u1 : Int32) (h0 : Heap) (n0 : Nat) (v : Option Value) (h : Heap) (L : List Loc) : Prop := v = some (.int ((((u0 &&& (255 : Int32)) <<< ((0 : Int32) &&& 31)) ||| ((u1 &&& (255 : Int32)) <<< ((8 : Int32) &&& 31))).toUInt32.toUInt16.toUInt32.toInt32)) ∧ Fr n0 L ∧ h = h0
set_option maxRecDepth 65536 in
set_option maxHeartbeats 40000000 in
theorem rmGC1_0 (l : Launch) (Z : State) (a0 : Array Value) (hw : own_H a0 Z) (ws : List Jvm.Cond) (wcs : Int32) (hS : own_S Z wcs) (b : Addr) (kb : ClassId) (u0 : Int32) (u1 : Int32) (h0 : Heap) (n0 : Nat) (O0 : Old Z n0 h0) (A2 : Arv Z h0 b kb .byte (2 : Int32) [(.int u0), (.int u1)] (.int (0 : Int32))) :
    own_Met l own_y_81 jdk_52_method_5_code 2 (some .char) ws ({ frames := 0, cells := 0, slots := 0, locals := 0 } : Room) Z h0 #[(.ref b), (.int (0 : Int32))] (QrmGC1_0 Z wcs b kb u0 u1 h0 n0) := by
  refine own_body (plainFor_of_name own_pn_15) ?_
  intro p e s m below meth c s₁ hx hby hml hown hnm hret hlk hZ e0 X0
  have N0 := Fr.nil n0
  refine own_st (fun u_ k_ => castTop (own_ef_rmGC1_0 m b) k_) ?_
  show own_Go p e below _ (s₁.setTop (mkF m 0 #[.val (.ref b), .val (.int (0 : Int32))] []))
  have F20 := Sta.ext O0.2 hS.2.2.1
  obtain ⟨T21, X21, e21, st21⟩ := getS2 X0 hx hZ hown (host := "") (Or.inl (own_w hw 72 rfl)) Via.refl e0 F20 (g := (mkF m 0 #[.val (.ref b), .val (.int (0 : Int32))] [])) rfl (hb hby own_d_jdk_52_5_0)
  refine own_st (fun u_ k_ => st21 u_ k_) ?_
  show own_Go p e below _ (T21.setTop (mkF m 3 #[.val (.ref b), .val (.int (0 : Int32))] [(.int (1 : Int32))]))
  refine own_st (fun u_ k_ => XS.ifYes X21.here hx rfl (pc0 := 3) (pc' := 28) rfl (hb hby own_d_jdk_52_5_3) rfl (XT.i0_ne_t (by decide)) (by decide) (by decide) k_) ?_
  show own_Go p e below _ (T21.setTop (mkF m 28 #[.val (.ref b), .val (.int (0 : Int32))] []))
  refine own_st (fun u_ k_ => XS.iloadN X21.here hx rfl (hb hby own_d_jdk_52_5_28) rfl k_) ?_
  show own_Go p e below _ (T21.setTop (mkF m 29 #[.val (.ref b), .val (.int (0 : Int32))] [(.int (0 : Int32))]))
  refine own_st (fun u_ k_ => XS.iconst X21.here hx rfl (hb hby own_d_jdk_52_5_29) k_) ?_
  show own_Go p e below _ (T21.setTop (mkF m 30 #[.val (.ref b), .val (.int (0 : Int32))] [(.int (1 : Int32)), (.int (0 : Int32))]))
  refine own_st (fun u_ k_ => XS.ishl X21.here hx rfl (hb hby own_d_jdk_52_5_30) rfl k_) ?_
  show own_Go p e below _ (T21.setTop (mkF m 31 #[.val (.ref b), .val (.int (0 : Int32))] [(.int (0 : Int32))]))
  refine own_st (fun u_ k_ => XS.istoreN X21.here hx rfl (hb hby own_d_jdk_52_5_31) rfl (l' := #[.val (.ref b), .val (.int (0 : Int32))]) rfl k_) ?_
  show own_Go p e below _ (T21.setTop (mkF m 32 #[.val (.ref b), .val (.int (0 : Int32))] []))
  refine own_st (fun u_ k_ => XS.aloadN X21.here hx rfl (hb hby own_d_jdk_52_5_32) rfl rfl k_) ?_
  show own_Go p e below _ (T21.setTop (mkF m 33 #[.val (.ref b), .val (.int (0 : Int32))] [(.ref b)]))
  refine own_st (fun u_ k_ => XS.iloadN X21.here hx rfl (hb hby own_d_jdk_52_5_33) rfl k_) ?_
  show own_Go p e below _ (T21.setTop (mkF m 34 #[.val (.ref b), .val (.int (0 : Int32))] [(.int (0 : Int32)), (.ref b)]))
  refine own_st (fun u_ k_ => XS.iinc X21.here hx rfl (hb hby own_d_jdk_52_5_34) rfl (l' := #[.val (.ref b), .val (.int (1 : Int32))]) rfl k_) ?_
  show own_Go p e below _ (T21.setTop (mkF m 37 #[.val (.ref b), .val (.int (1 : Int32))] [(.int (0 : Int32)), (.ref b)]))
  obtain ⟨cl22, Ar22, q22, S22, N22, H22, G22⟩ := id A2
  have hi22 : ¬ ((0 : Int32) < 0 ∨ cl22.slots.size ≤ ((0 : Int32)).toNatClampNeg) := inb_of S22 ⟨by decide, by decide⟩
  have ha22 : cl22.slots[((0 : Int32)).toNatClampNeg]? = some (.int u0) := H22.at hi22 rfl
  refine own_st (X21.baloadBytes hx (j := (0 : Int32)) (v := (.int u0)) (by rw [e21]; exact Ar22.1) (State.isArrayOf_alike hZ.alike Ar22.2.1) Ar22.2.2 hi22 ha22 (g := (mkF m 37 #[.val (.ref b), .val (.int (1 : Int32))] [(.int (0 : Int32)), (.ref b)])) rfl rfl (hb hby own_d_jdk_52_5_37)) ?_
  show own_Go p e below _ (T21.setTop (mkF m 38 #[.val (.ref b), .val (.int (1 : Int32))] [(.int u0)]))
  refine own_st (fun u_ k_ => XS.sipush X21.here hx rfl (hb hby own_d_jdk_52_5_38) k_) ?_
  show own_Go p e below _ (T21.setTop (mkF m 41 #[.val (.ref b), .val (.int (1 : Int32))] [(.int (255 : Int32)), (.int u0)]))
  refine own_st (fun u_ k_ => XS.iand X21.here hx rfl (hb hby own_d_jdk_52_5_41) rfl k_) ?_
  show own_Go p e below _ (T21.setTop (mkF m 42 #[.val (.ref b), .val (.int (1 : Int32))] [(.int (u0 &&& (255 : Int32)))]))
  have F23 := Sta.ext O0.2 hS.2.2.2.1
  obtain ⟨T24, X24, e24, st24⟩ := getS2 X21 hx hZ hown (host := "") (Or.inl (own_w hw 73 rfl)) Via.refl e21 F23 (g := (mkF m 42 #[.val (.ref b), .val (.int (1 : Int32))] [(.int (u0 &&& (255 : Int32)))])) rfl (hb hby own_d_jdk_52_5_42)
  refine own_st (fun u_ k_ => st24 u_ k_) ?_
  show own_Go p e below _ (T24.setTop (mkF m 45 #[.val (.ref b), .val (.int (1 : Int32))] [(.int (0 : Int32)), (.int (u0 &&& (255 : Int32)))]))
  refine own_st (fun u_ k_ => XS.ishl X24.here hx rfl (hb hby own_d_jdk_52_5_45) rfl k_) ?_
  show own_Go p e below _ (T24.setTop (mkF m 46 #[.val (.ref b), .val (.int (1 : Int32))] [(.int ((u0 &&& (255 : Int32)) <<< ((0 : Int32) &&& 31)))]))
  refine own_st (fun u_ k_ => XS.aloadN X24.here hx rfl (hb hby own_d_jdk_52_5_46) rfl rfl k_) ?_
  show own_Go p e below _ (T24.setTop (mkF m 47 #[.val (.ref b), .val (.int (1 : Int32))] [(.ref b), (.int ((u0 &&& (255 : Int32)) <<< ((0 : Int32) &&& 31)))]))
  refine own_st (fun u_ k_ => XS.iloadN X24.here hx rfl (hb hby own_d_jdk_52_5_47) rfl k_) ?_
  show own_Go p e below _ (T24.setTop (mkF m 48 #[.val (.ref b), .val (.int (1 : Int32))] [(.int (1 : Int32)), (.ref b), (.int ((u0 &&& (255 : Int32)) <<< ((0 : Int32) &&& 31)))]))
  obtain ⟨cl25, Ar25, q25, S25, N25, H25, G25⟩ := id A2
  have hi25 : ¬ ((1 : Int32) < 0 ∨ cl25.slots.size ≤ ((1 : Int32)).toNatClampNeg) := inb_of S25 ⟨by decide, by decide⟩
  have ha25 : cl25.slots[((1 : Int32)).toNatClampNeg]? = some (.int u1) := H25.at hi25 rfl
  refine own_st (X24.baloadBytes hx (j := (1 : Int32)) (v := (.int u1)) (by rw [e24]; exact Ar25.1) (State.isArrayOf_alike hZ.alike Ar25.2.1) Ar25.2.2 hi25 ha25 (g := (mkF m 48 #[.val (.ref b), .val (.int (1 : Int32))] [(.int (1 : Int32)), (.ref b), (.int ((u0 &&& (255 : Int32)) <<< ((0 : Int32) &&& 31)))])) rfl rfl (hb hby own_d_jdk_52_5_48)) ?_
  show own_Go p e below _ (T24.setTop (mkF m 49 #[.val (.ref b), .val (.int (1 : Int32))] [(.int u1), (.int ((u0 &&& (255 : Int32)) <<< ((0 : Int32) &&& 31)))]))
  refine own_st (fun u_ k_ => XS.sipush X24.here hx rfl (hb hby own_d_jdk_52_5_49) k_) ?_
  show own_Go p e below _ (T24.setTop (mkF m 52 #[.val (.ref b), .val (.int (1 : Int32))] [(.int (255 : Int32)), (.int u1), (.int ((u0 &&& (255 : Int32)) <<< ((0 : Int32) &&& 31)))]))
  refine own_st (fun u_ k_ => XS.iand X24.here hx rfl (hb hby own_d_jdk_52_5_52) rfl k_) ?_
  show own_Go p e below _ (T24.setTop (mkF m 53 #[.val (.ref b), .val (.int (1 : Int32))] [(.int (u1 &&& (255 : Int32))), (.int ((u0 &&& (255 : Int32)) <<< ((0 : Int32) &&& 31)))]))
  have F26 := Sta.ext O0.2 hS.2.2.2.2
  obtain ⟨T27, X27, e27, st27⟩ := getS2 X24 hx hZ hown (host := "") (Or.inl (own_w hw 74 rfl)) Via.refl e24 F26 (g := (mkF m 53 #[.val (.ref b), .val (.int (1 : Int32))] [(.int (u1 &&& (255 : Int32))), (.int ((u0 &&& (255 : Int32)) <<< ((0 : Int32) &&& 31)))])) rfl (hb hby own_d_jdk_52_5_53)
  refine own_st (fun u_ k_ => st27 u_ k_) ?_
  show own_Go p e below _ (T27.setTop (mkF m 56 #[.val (.ref b), .val (.int (1 : Int32))] [(.int (8 : Int32)), (.int (u1 &&& (255 : Int32))), (.int ((u0 &&& (255 : Int32)) <<< ((0 : Int32) &&& 31)))]))
  refine own_st (fun u_ k_ => XS.ishl X27.here hx rfl (hb hby own_d_jdk_52_5_56) rfl k_) ?_
  show own_Go p e below _ (T27.setTop (mkF m 57 #[.val (.ref b), .val (.int (1 : Int32))] [(.int ((u1 &&& (255 : Int32)) <<< ((8 : Int32) &&& 31))), (.int ((u0 &&& (255 : Int32)) <<< ((0 : Int32) &&& 31)))]))
  refine own_st (fun u_ k_ => XS.ior X27.here hx rfl (hb hby own_d_jdk_52_5_57) rfl k_) ?_
  show own_Go p e below _ (T27.setTop (mkF m 58 #[.val (.ref b), .val (.int (1 : Int32))] [(.int (((u0 &&& (255 : Int32)) <<< ((0 : Int32) &&& 31)) ||| ((u1 &&& (255 : Int32)) <<< ((8 : Int32) &&& 31))))]))
  refine own_st (fun u_ k_ => XS.i2c X27.here hx rfl (hb hby own_d_jdk_52_5_58) rfl k_) ?_
  show own_Go p e below _ (T27.setTop (mkF m 59 #[.val (.ref b), .val (.int (1 : Int32))] [(.int ((((u0 &&& (255 : Int32)) <<< ((0 : Int32) &&& 31)) ||| ((u1 &&& (255 : Int32)) <<< ((8 : Int32) &&& 31))).toUInt32.toUInt16.toUInt32.toInt32))]))
  exact own_retX X27 hx hlk hret (own_narC _) (Or.inl ⟨rfl, by simp, _, rfl⟩) (hb hby own_d_jdk_52_5_59) (by decide) (by decide) (show QrmGC1_0 Z wcs b kb u0 u1 h0 n0 (some (.int ((((u0 &&& (255 : Int32)) <<< ((0 : Int32) &&& 31)) ||| ((u1 &&& (255 : Int32)) <<< ((8 : Int32) &&& 31))).toUInt32.toUInt16.toUInt32.toInt32))) T27.heap _ from (by rw [e27]; exact ⟨rfl, N0, rfl⟩))
theorem own_d_jdk_52_14_0 : decode jdk_52_method_14_code 0 = .ok (.iload_n 2, 1) := by decide +kernel
theorem own_d_jdk_52_14_1 : decode jdk_52_method_14_code 1 = .ok (.invokestatic 107, 3) := by decide +kernel
theorem own_pd_85 : parseMethodDescriptor "(I)[B" = some ⟨[.int], some (.array .byte)⟩ := by decide +kernel
theorem own_d_jdk_52_14_4 : decode jdk_52_method_14_code 4 = .ok (.astore_n 3, 1) := by decide +kernel
theorem own_d_jdk_52_14_5 : decode jdk_52_method_14_code 5 = .ok (.iconst 0, 1) := by decide +kernel
theorem own_d_jdk_52_14_6 : decode jdk_52_method_14_code 6 = .ok (.istore 4, 2) := by decide +kernel
theorem own_d_jdk_52_14_8 : decode jdk_52_method_14_code 8 = .ok (.iload 4, 2) := by decide +kernel
theorem own_d_jdk_52_14_10 : decode jdk_52_method_14_code 10 = .ok (.iload_n 2, 1) := by decide +kernel
theorem own_d_jdk_52_14_11 : decode jdk_52_method_14_code 11 = .ok (.if_icmp .ge 21, 3) := by decide +kernel
theorem own_d_jdk_52_14_14 : decode jdk_52_method_14_code 14 = .ok (.aload_n 3, 1) := by decide +kernel
theorem own_d_jdk_52_14_15 : decode jdk_52_method_14_code 15 = .ok (.iload 4, 2) := by decide +kernel
theorem own_d_jdk_52_14_17 : decode jdk_52_method_14_code 17 = .ok (.aload_n 0, 1) := by decide +kernel
theorem own_d_jdk_52_14_18 : decode jdk_52_method_14_code 18 = .ok (.iload_n 1, 1) := by decide +kernel
theorem own_d_jdk_52_14_19 : decode jdk_52_method_14_code 19 = .ok (.caload, 1) := by decide +kernel
theorem own_d_jdk_52_14_20 : decode jdk_52_method_14_code 20 = .ok (.invokestatic 111, 3) := by decide +kernel
theorem own_pd_98 : parseMethodDescriptor "([BII)V" = some ⟨[(.array .byte), .int, .int], none⟩ := by decide +kernel
theorem own_d_jdk_52_14_23 : decode jdk_52_method_14_code 23 = .ok (.iinc 1 1, 3) := by decide +kernel
theorem own_d_jdk_52_14_26 : decode jdk_52_method_14_code 26 = .ok (.iinc 4 1, 3) := by decide +kernel
theorem own_d_jdk_52_14_29 : decode jdk_52_method_14_code 29 = .ok (.goto (-21), 3) := by decide +kernel
theorem own_d_jdk_52_14_32 : decode jdk_52_method_14_code 32 = .ok (.aload_n 3, 1) := by decide +kernel
theorem own_d_jdk_52_14_33 : decode jdk_52_method_14_code 33 = .ok (.areturn, 1) := by decide +kernel
abbrev own_y_104 : MethodName := ⟨"java/lang/StringUTF16", "toBytes", "([CII)[B"⟩
theorem own_ef_rmTB1 (m : MethodId) (a : Addr)  : entryFrame m #[(.ref a), (.int (0 : Int32)), (.int (1 : Int32))] 5 = mkF m 0 #[.val (.ref a), .val (.int (0 : Int32)), .val (.int (1 : Int32)), .unset, .unset] [] := by first | (simp [entryFrame, mkF, argsToLocals, Value.category, maxLocals]; done) | rfl
def QrmTB1 (Z : State) (wcs : Int32) (a : Addr) (ka : ClassId) (v0 : Int32) (h0 : Heap) (n0 : Nat) (v : Option Value) (h : Heap) (L : List Loc) : Prop := ∃ r : Addr, ∃ kr : ClassId, v = some (.ref r) ∧ Fr n0 L ∧ Keep h0 h [] ∧ h0.size ≤ r ∧ Exa Z h r "[B" ∧ Arv Z h r kr .byte (2 : Int32) [(.int ((v0 >>> ((0 : Int32) &&& 31)).toInt8.toInt32)), (.int ((v0 >>> ((8 : Int32) &&& 31)).toInt8.toInt32))] (.int (0 : Int32))
set_option maxRecDepth 65536 in
set_option maxHeartbeats 40000000 in
theorem rmTB1 (l : Launch) (Z : State) (a0 : Array Value) (hw : own_H a0 Z) (ws : List Jvm.Cond) (wcs : Int32) (hS : own_S Z wcs) (a : Addr) (ka : ClassId) (v0 : Int32) (h0 : Heap) (n0 : Nat) (O0 : Old Z n0 h0) (Ea : Exa Z h0 a "[C") (A1 : Arv Z h0 a ka .char (1 : Int32) [(.int v0)] (.int (0 : Int32))) :
    own_Met l own_y_104 jdk_52_method_14_code 5 (some (.array .byte)) ws ({ frames := 2, cells := 1, slots := 2, locals := 24 } : Room) Z h0 #[(.ref a), (.int (0 : Int32)), (.int (1 : Int32))] (QrmTB1 Z wcs a ka v0 h0 n0) := by
  refine own_body (plainFor_of_name own_pn_15) ?_
  intro p e s m below meth c s₁ hx hby hml hown hnm hret hlk hZ e0 X0
  have N0 := Fr.nil n0
  refine own_st (fun u_ k_ => castTop (own_ef_rmTB1 m a) k_) ?_
  show own_Go p e below _ (s₁.setTop (mkF m 0 #[.val (.ref a), .val (.int (0 : Int32)), .val (.int (1 : Int32)), .unset, .unset] []))
  refine own_st (fun u_ k_ => XS.iloadN X0.here hx rfl (hb hby own_d_jdk_52_14_0) rfl k_) ?_
  show own_Go p e below _ (s₁.setTop (mkF m 1 #[.val (.ref a), .val (.int (0 : Int32)), .val (.int (1 : Int32)), .unset, .unset] [(.int (1 : Int32))]))
  obtain ⟨T28, v28, L28, X28, hQ28, st28⟩ := own_callS X0 hx hZ (y := own_y_33) hown (own_w hw 62 rfl) (own_w hw 63 rfl) (own_w hw 18 rfl) (own_w hw 64 rfl) own_lm_28 (rmNB1 l Z a0 hw [] wcs hS  h0 n0 O0 ) e0 own_pd_85 (argsL := [(.int (1 : Int32))]) (rest := []) rfl rfl (g := (mkF m 1 #[.val (.ref a), .val (.int (0 : Int32)), .val (.int (1 : Int32)), .unset, .unset] [(.int (1 : Int32))])) rfl (by rw [hml]; rfl) rfl (hb hby own_d_jdk_52_14_1) (W := 0) rfl (by decide) (by decide) (by decide) (by decide)
  obtain ⟨r_29, kr_30, rfl, M28, K28, z31, F32, F33⟩ := hQ28
  have N28 := Fr.app N0 M28
  refine own_st (fun u_ k_ => st28 u_ k_) ?_
  show own_Go p e below _ (T28.setTop (mkF m 4 #[.val (.ref a), .val (.int (0 : Int32)), .val (.int (1 : Int32)), .unset, .unset] [(.ref r_29)]))
  refine own_st (fun u_ k_ => XS.astoreN X28.here hx rfl (hb hby own_d_jdk_52_14_4) rfl rfl (l' := #[.val (.ref a), .val (.int (0 : Int32)), .val (.int (1 : Int32)), .val (.ref r_29), .unset]) rfl k_) ?_
  show own_Go p e below _ (T28.setTop (mkF m 5 #[.val (.ref a), .val (.int (0 : Int32)), .val (.int (1 : Int32)), .val (.ref r_29), .unset] []))
  refine own_st (fun u_ k_ => XS.iconst X28.here hx rfl (hb hby own_d_jdk_52_14_5) k_) ?_
  show own_Go p e below _ (T28.setTop (mkF m 6 #[.val (.ref a), .val (.int (0 : Int32)), .val (.int (1 : Int32)), .val (.ref r_29), .unset] [(.int (0 : Int32))]))
  refine own_st (fun u_ k_ => XS.istore X28.here hx rfl (hb hby own_d_jdk_52_14_6) rfl (l' := #[.val (.ref a), .val (.int (0 : Int32)), .val (.int (1 : Int32)), .val (.ref r_29), .val (.int (0 : Int32))]) rfl k_) ?_
  show own_Go p e below _ (T28.setTop (mkF m 8 #[.val (.ref a), .val (.int (0 : Int32)), .val (.int (1 : Int32)), .val (.ref r_29), .val (.int (0 : Int32))] []))
  refine own_st (fun u_ k_ => XS.iload X28.here hx rfl (hb hby own_d_jdk_52_14_8) rfl k_) ?_
  show own_Go p e below _ (T28.setTop (mkF m 10 #[.val (.ref a), .val (.int (0 : Int32)), .val (.int (1 : Int32)), .val (.ref r_29), .val (.int (0 : Int32))] [(.int (0 : Int32))]))
  refine own_st (fun u_ k_ => XS.iloadN X28.here hx rfl (hb hby own_d_jdk_52_14_10) rfl k_) ?_
  show own_Go p e below _ (T28.setTop (mkF m 11 #[.val (.ref a), .val (.int (0 : Int32)), .val (.int (1 : Int32)), .val (.ref r_29), .val (.int (0 : Int32))] [(.int (1 : Int32)), (.int (0 : Int32))]))
  refine own_st (fun u_ k_ => XS.icmpNo X28.here hx rfl (hb hby own_d_jdk_52_14_11) rfl (XT.ii_ge_f (by decide)) k_) ?_
  show own_Go p e below _ (T28.setTop (mkF m 14 #[.val (.ref a), .val (.int (0 : Int32)), .val (.int (1 : Int32)), .val (.ref r_29), .val (.int (0 : Int32))] []))
  refine own_st (fun u_ k_ => XS.aloadN X28.here hx rfl (hb hby own_d_jdk_52_14_14) rfl rfl k_) ?_
  show own_Go p e below _ (T28.setTop (mkF m 15 #[.val (.ref a), .val (.int (0 : Int32)), .val (.int (1 : Int32)), .val (.ref r_29), .val (.int (0 : Int32))] [(.ref r_29)]))
  refine own_st (fun u_ k_ => XS.iload X28.here hx rfl (hb hby own_d_jdk_52_14_15) rfl k_) ?_
  show own_Go p e below _ (T28.setTop (mkF m 17 #[.val (.ref a), .val (.int (0 : Int32)), .val (.int (1 : Int32)), .val (.ref r_29), .val (.int (0 : Int32))] [(.int (0 : Int32)), (.ref r_29)]))
  refine own_st (fun u_ k_ => XS.aloadN X28.here hx rfl (hb hby own_d_jdk_52_14_17) rfl rfl k_) ?_
  show own_Go p e below _ (T28.setTop (mkF m 18 #[.val (.ref a), .val (.int (0 : Int32)), .val (.int (1 : Int32)), .val (.ref r_29), .val (.int (0 : Int32))] [(.ref a), (.int (0 : Int32)), (.ref r_29)]))
  refine own_st (fun u_ k_ => XS.iloadN X28.here hx rfl (hb hby own_d_jdk_52_14_18) rfl k_) ?_
  show own_Go p e below _ (T28.setTop (mkF m 19 #[.val (.ref a), .val (.int (0 : Int32)), .val (.int (1 : Int32)), .val (.ref r_29), .val (.int (0 : Int32))] [(.int (0 : Int32)), (.ref a), (.int (0 : Int32)), (.ref r_29)]))
  have F34 := (A1.keep K28 nin0)
  obtain ⟨cl35, Ar35, q35, S35, N35, H35, G35⟩ := id F34
  have hi35 : ¬ ((0 : Int32) < 0 ∨ cl35.slots.size ≤ ((0 : Int32)).toNatClampNeg) := inb_of S35 ⟨by decide, by decide⟩
  have ha35 : cl35.slots[((0 : Int32)).toNatClampNeg]? = some (.int v0) := H35.at hi35 rfl
  refine own_st (X28.caload hx (j := (0 : Int32)) (v := (.int v0)) Ar35.1 (State.isArrayOf_alike hZ.alike Ar35.2.1) Ar35.2.2 hi35 ha35 (g := (mkF m 19 #[.val (.ref a), .val (.int (0 : Int32)), .val (.int (1 : Int32)), .val (.ref r_29), .val (.int (0 : Int32))] [(.int (0 : Int32)), (.ref a), (.int (0 : Int32)), (.ref r_29)])) rfl rfl (hb hby own_d_jdk_52_14_19)) ?_
  show own_Go p e below _ (T28.setTop (mkF m 20 #[.val (.ref a), .val (.int (0 : Int32)), .val (.int (1 : Int32)), .val (.ref r_29), .val (.int (0 : Int32))] [(.int v0), (.int (0 : Int32)), (.ref r_29)]))
  have g36 : n0 ≤ r_29 := Nat.le_trans (own_nl O0) z31
  have O38 : Old Z n0 T28.heap := O0.keep K28 all0
  obtain ⟨T37, v37, L37, X37, hQ37, st37⟩ := own_callS X28 hx hZ (y := own_y_56) hown (own_w hw 69 rfl) (own_w hw 70 rfl) (own_w hw 18 rfl) (own_w hw 71 rfl) own_lm_28 (rmPC1_0 l Z a0 hw [] wcs hS r_29 kr_30 v0 (0 : Int32) (0 : Int32) T28.heap n0 O38 F32 g36 F33) rfl own_pd_98 (argsL := [(.ref r_29), (.int (0 : Int32)), (.int v0)]) (rest := []) rfl rfl (g := (mkF m 20 #[.val (.ref a), .val (.int (0 : Int32)), .val (.int (1 : Int32)), .val (.ref r_29), .val (.int (0 : Int32))] [(.int v0), (.int (0 : Int32)), (.ref r_29)])) rfl (by rw [hml]; rfl) rfl (hb hby own_d_jdk_52_14_20) (W := 0) rfl (by decide) (by decide) (by decide) (by decide)
  obtain ⟨rfl, M37, K37, F39, F40⟩ := hQ37
  have N37 := Fr.app N28 M37
  refine own_st (fun u_ k_ => st37 u_ k_) ?_
  show own_Go p e below _ (T37.setTop (mkF m 23 #[.val (.ref a), .val (.int (0 : Int32)), .val (.int (1 : Int32)), .val (.ref r_29), .val (.int (0 : Int32))] []))
  refine own_st (fun u_ k_ => XS.iinc X37.here hx rfl (hb hby own_d_jdk_52_14_23) rfl (l' := #[.val (.ref a), .val (.int (1 : Int32)), .val (.int (1 : Int32)), .val (.ref r_29), .val (.int (0 : Int32))]) rfl k_) ?_
  show own_Go p e below _ (T37.setTop (mkF m 26 #[.val (.ref a), .val (.int (1 : Int32)), .val (.int (1 : Int32)), .val (.ref r_29), .val (.int (0 : Int32))] []))
  refine own_st (fun u_ k_ => XS.iinc X37.here hx rfl (hb hby own_d_jdk_52_14_26) rfl (l' := #[.val (.ref a), .val (.int (1 : Int32)), .val (.int (1 : Int32)), .val (.ref r_29), .val (.int (1 : Int32))]) rfl k_) ?_
  show own_Go p e below _ (T37.setTop (mkF m 29 #[.val (.ref a), .val (.int (1 : Int32)), .val (.int (1 : Int32)), .val (.ref r_29), .val (.int (1 : Int32))] []))
  refine own_st (fun u_ k_ => XS.goto X37.here hx rfl (pc0 := 29) (pc' := 8) rfl (hb hby own_d_jdk_52_14_29) (by decide) (by decide) k_) ?_
  show own_Go p e below _ (T37.setTop (mkF m 8 #[.val (.ref a), .val (.int (1 : Int32)), .val (.int (1 : Int32)), .val (.ref r_29), .val (.int (1 : Int32))] []))
  refine own_st (fun u_ k_ => XS.iload X37.here hx rfl (hb hby own_d_jdk_52_14_8) rfl k_) ?_
  show own_Go p e below _ (T37.setTop (mkF m 10 #[.val (.ref a), .val (.int (1 : Int32)), .val (.int (1 : Int32)), .val (.ref r_29), .val (.int (1 : Int32))] [(.int (1 : Int32))]))
  refine own_st (fun u_ k_ => XS.iloadN X37.here hx rfl (hb hby own_d_jdk_52_14_10) rfl k_) ?_
  show own_Go p e below _ (T37.setTop (mkF m 11 #[.val (.ref a), .val (.int (1 : Int32)), .val (.int (1 : Int32)), .val (.ref r_29), .val (.int (1 : Int32))] [(.int (1 : Int32)), (.int (1 : Int32))]))
  refine own_st (fun u_ k_ => XS.icmpYes X37.here hx rfl (pc0 := 11) (pc' := 32) rfl (hb hby own_d_jdk_52_14_11) rfl (XT.ii_ge_t (by decide)) (by decide) (by decide) k_) ?_
  show own_Go p e below _ (T37.setTop (mkF m 32 #[.val (.ref a), .val (.int (1 : Int32)), .val (.int (1 : Int32)), .val (.ref r_29), .val (.int (1 : Int32))] []))
  refine own_st (fun u_ k_ => XS.aloadN X37.here hx rfl (hb hby own_d_jdk_52_14_32) rfl rfl k_) ?_
  show own_Go p e below _ (T37.setTop (mkF m 33 #[.val (.ref a), .val (.int (1 : Int32)), .val (.int (1 : Int32)), .val (.ref r_29), .val (.int (1 : Int32))] [(.ref r_29)]))
  have K41 : Keep h0 T28.heap [] := (Keep.refl h0 []).trans K28 all0
  have z43 : h0.size ≤ r_29 := Nat.le_trans (Nat.le_refl _) z31
  have K42 : Keep h0 T37.heap [] := K41.trans K37 (allS (Or.inr z43) all0)
  exact own_retX X37 hx hlk hret rfl (Or.inr (Or.inr (Or.inr (Or.inr ⟨rfl, rfl, rfl⟩)))) (hb hby own_d_jdk_52_14_33) (by decide) (by decide) (show QrmTB1 Z wcs a ka v0 h0 n0 (some (.ref r_29)) T37.heap _ from (by exact ⟨r_29, kr_30, rfl, N37, K42, z43, F39, F40⟩))
theorem own_d_jdk_52_16_0 : decode jdk_52_method_16_code 0 = .ok (.iload_n 2, 1) := by decide +kernel
theorem own_d_jdk_52_16_1 : decode jdk_52_method_16_code 1 = .ok (.newarray .byte, 2) := by decide +kernel
theorem own_d_jdk_52_16_3 : decode jdk_52_method_16_code 3 = .ok (.astore_n 3, 1) := by decide +kernel
theorem own_d_jdk_52_16_4 : decode jdk_52_method_16_code 4 = .ok (.aload_n 0, 1) := by decide +kernel
theorem own_d_jdk_52_16_5 : decode jdk_52_method_16_code 5 = .ok (.iload_n 1, 1) := by decide +kernel
theorem own_d_jdk_52_16_6 : decode jdk_52_method_16_code 6 = .ok (.aload_n 3, 1) := by decide +kernel
theorem own_d_jdk_52_16_7 : decode jdk_52_method_16_code 7 = .ok (.iconst 0, 1) := by decide +kernel
theorem own_d_jdk_52_16_8 : decode jdk_52_method_16_code 8 = .ok (.iload_n 2, 1) := by decide +kernel
theorem own_d_jdk_52_16_9 : decode jdk_52_method_16_code 9 = .ok (.invokestatic 115, 3) := by decide +kernel
theorem own_pd_115 : parseMethodDescriptor "([CI[BII)I" = some ⟨[(.array .char), .int, (.array .byte), .int, .int], some .int⟩ := by decide +kernel
theorem own_d_jdk_52_16_12 : decode jdk_52_method_16_code 12 = .ok (.istore 4, 2) := by decide +kernel
theorem own_d_jdk_52_16_14 : decode jdk_52_method_16_code 14 = .ok (.iload 4, 2) := by decide +kernel
theorem own_d_jdk_52_16_16 : decode jdk_52_method_16_code 16 = .ok (.iload_n 2, 1) := by decide +kernel
theorem own_d_jdk_52_16_17 : decode jdk_52_method_16_code 17 = .ok (.if_icmp .eq 40, 3) := by decide +kernel
theorem own_d_jdk_52_16_20 : decode jdk_52_method_16_code 20 = .ok (.aload_n 0, 1) := by decide +kernel
theorem own_d_jdk_52_16_21 : decode jdk_52_method_16_code 21 = .ok (.iload_n 1, 1) := by decide +kernel
theorem own_d_jdk_52_16_22 : decode jdk_52_method_16_code 22 = .ok (.iload_n 2, 1) := by decide +kernel
theorem own_d_jdk_52_16_23 : decode jdk_52_method_16_code 23 = .ok (.invokestatic 119, 3) := by decide +kernel
theorem own_pd_124 : parseMethodDescriptor "([CII)[B" = some ⟨[(.array .char), .int, .int], some (.array .byte)⟩ := by decide +kernel
theorem own_d_jdk_52_16_26 : decode jdk_52_method_16_code 26 = .ok (.astore 5, 2) := by decide +kernel
theorem own_d_jdk_52_16_28 : decode jdk_52_method_16_code 28 = .ok (.aload 5, 2) := by decide +kernel
theorem own_d_jdk_52_16_30 : decode jdk_52_method_16_code 30 = .ok (.iload 4, 2) := by decide +kernel
theorem own_d_jdk_52_16_32 : decode jdk_52_method_16_code 32 = .ok (.invokestatic 71, 3) := by decide +kernel
theorem own_pd_129 : parseMethodDescriptor "([BI)C" = some ⟨[(.array .byte), .int], some .char⟩ := by decide +kernel
theorem own_d_jdk_52_16_35 : decode jdk_52_method_16_code 35 = .ok (.sipush 255, 3) := by decide +kernel
theorem own_d_jdk_52_16_38 : decode jdk_52_method_16_code 38 = .ok (.if_icmp .gt 16, 3) := by decide +kernel
theorem own_d_jdk_52_16_54 : decode jdk_52_method_16_code 54 = .ok (.aload 5, 2) := by decide +kernel
theorem own_d_jdk_52_16_56 : decode jdk_52_method_16_code 56 = .ok (.areturn, 1) := by decide +kernel
abbrev own_y_134 : MethodName := ⟨"java/lang/StringUTF16", "compress", "([CII)[B"⟩
theorem own_ef_rmCq1_0 (m : MethodId) (a : Addr)  : entryFrame m #[(.ref a), (.int (0 : Int32)), (.int (1 : Int32))] 6 = mkF m 0 #[.val (.ref a), .val (.int (0 : Int32)), .val (.int (1 : Int32)), .unset, .unset, .unset] [] := by first | (simp [entryFrame, mkF, argsToLocals, Value.category, maxLocals]; done) | rfl
def QrmCq1_0 (Z : State) (wcs : Int32) (a : Addr) (ka : ClassId) (v0 : Int32) (h0 : Heap) (n0 : Nat) (v : Option Value) (h : Heap) (L : List Loc) : Prop := ∃ r : Addr, ∃ kr : ClassId, v = some (.ref r) ∧ Fr n0 L ∧ Keep h0 h [] ∧ h0.size ≤ r ∧ Exa Z h r "[B" ∧ Arv Z h r kr .byte (2 : Int32) [(.int ((v0 >>> ((0 : Int32) &&& 31)).toInt8.toInt32)), (.int ((v0 >>> ((8 : Int32) &&& 31)).toInt8.toInt32))] (.int (0 : Int32))
set_option maxRecDepth 65536 in
set_option maxHeartbeats 40000000 in
theorem rmCq1_0 (l : Launch) (Z : State) (a0 : Array Value) (hw : own_H a0 Z) (ws : List Jvm.Cond) (wcs : Int32) (hS : own_S Z wcs) (a : Addr) (ka : ClassId) (v0 : Int32) (h0 : Heap) (n0 : Nat) (O0 : Old Z n0 h0) (Ea : Exa Z h0 a "[C") (A1 : Arv Z h0 a ka .char (1 : Int32) [(.int v0)] (.int (0 : Int32))) (q0 : (255 : Int32) < v0) (w0 : own_C16 v0) :
    own_Met l own_y_134 jdk_52_method_16_code 6 (some (.array .byte)) ws ({ frames := 3, cells := 2, slots := 3, locals := 40 } : Room) Z h0 #[(.ref a), (.int (0 : Int32)), (.int (1 : Int32))] (QrmCq1_0 Z wcs a ka v0 h0 n0) := by
  refine own_body (plainFor_of_name own_pn_15) ?_
  intro p e s m below meth c s₁ hx hby hml hown hnm hret hlk hZ e0 X0
  have N0 := Fr.nil n0
  refine own_st (fun u_ k_ => castTop (own_ef_rmCq1_0 m a) k_) ?_
  show own_Go p e below _ (s₁.setTop (mkF m 0 #[.val (.ref a), .val (.int (0 : Int32)), .val (.int (1 : Int32)), .unset, .unset, .unset] []))
  refine own_st (fun u_ k_ => XS.iloadN X0.here hx rfl (hb hby own_d_jdk_52_16_0) rfl k_) ?_
  show own_Go p e below _ (s₁.setTop (mkF m 1 #[.val (.ref a), .val (.int (0 : Int32)), .val (.int (1 : Int32)), .unset, .unset, .unset] [(.int (1 : Int32))]))
  obtain ⟨T44, h44, k44, X44, e44, E44, A44, Y44, st44⟩ := newPE X0 hx hZ (own_w hw 20 rfl) e0 (g := (mkF m 1 #[.val (.ref a), .val (.int (0 : Int32)), .val (.int (1 : Int32)), .unset, .unset, .unset] [(.int (1 : Int32))])) rfl (hb hby own_d_jdk_52_16_1) rfl (by decide) (cap := 1) (by decide) (by decide) (by decide) (by decide) (ad := "[B") own_lm_31
  obtain ⟨b44, g44⟩ : ∃ z, z = h0.size := ⟨_, rfl⟩
  rw [← g44] at A44 Y44 st44
  have V44 : Arv Z h44 b44 k44 .byte (1 : Int32) [(.int (0 : Int32))] (.int (0 : Int32)) := (Arv.new A44 (by decide)).pad (pad_rep [] (.int (0 : Int32)) 1)
  refine own_st (fun u_ k_ => st44 u_ k_) ?_
  show own_Go p e below _ (T44.setTop (mkF m 3 #[.val (.ref a), .val (.int (0 : Int32)), .val (.int (1 : Int32)), .unset, .unset, .unset] [(.ref b44)]))
  refine own_st (fun u_ k_ => XS.astoreN X44.here hx rfl (hb hby own_d_jdk_52_16_3) rfl rfl (l' := #[.val (.ref a), .val (.int (0 : Int32)), .val (.int (1 : Int32)), .val (.ref b44), .unset, .unset]) rfl k_) ?_
  show own_Go p e below _ (T44.setTop (mkF m 4 #[.val (.ref a), .val (.int (0 : Int32)), .val (.int (1 : Int32)), .val (.ref b44), .unset, .unset] []))
  refine own_st (fun u_ k_ => XS.aloadN X44.here hx rfl (hb hby own_d_jdk_52_16_4) rfl rfl k_) ?_
  show own_Go p e below _ (T44.setTop (mkF m 5 #[.val (.ref a), .val (.int (0 : Int32)), .val (.int (1 : Int32)), .val (.ref b44), .unset, .unset] [(.ref a)]))
  refine own_st (fun u_ k_ => XS.iloadN X44.here hx rfl (hb hby own_d_jdk_52_16_5) rfl k_) ?_
  show own_Go p e below _ (T44.setTop (mkF m 6 #[.val (.ref a), .val (.int (0 : Int32)), .val (.int (1 : Int32)), .val (.ref b44), .unset, .unset] [(.int (0 : Int32)), (.ref a)]))
  refine own_st (fun u_ k_ => XS.aloadN X44.here hx rfl (hb hby own_d_jdk_52_16_6) rfl rfl k_) ?_
  show own_Go p e below _ (T44.setTop (mkF m 7 #[.val (.ref a), .val (.int (0 : Int32)), .val (.int (1 : Int32)), .val (.ref b44), .unset, .unset] [(.ref b44), (.int (0 : Int32)), (.ref a)]))
  refine own_st (fun u_ k_ => XS.iconst X44.here hx rfl (hb hby own_d_jdk_52_16_7) k_) ?_
  show own_Go p e below _ (T44.setTop (mkF m 8 #[.val (.ref a), .val (.int (0 : Int32)), .val (.int (1 : Int32)), .val (.ref b44), .unset, .unset] [(.int (0 : Int32)), (.ref b44), (.int (0 : Int32)), (.ref a)]))
  refine own_st (fun u_ k_ => XS.iloadN X44.here hx rfl (hb hby own_d_jdk_52_16_8) rfl k_) ?_
  show own_Go p e below _ (T44.setTop (mkF m 9 #[.val (.ref a), .val (.int (0 : Int32)), .val (.int (1 : Int32)), .val (.ref b44), .unset, .unset] [(.int (1 : Int32)), (.int (0 : Int32)), (.ref b44), (.int (0 : Int32)), (.ref a)]))
  have F45 := (Exa.ext E44 Ea)
  have g46 : n0 ≤ b44 := Nat.le_trans (own_nl O0) (Nat.le_of_eq g44.symm)
  have F47 := (A1.ext E44)
  have O49 : Old Z n0 h44 := O0.ext E44
  obtain ⟨T48, v48, L48, X48, hQ48, st48⟩ := own_callS X44 hx hZ (y := own_y_14) hown (own_w hw 21 rfl) (own_w hw 22 rfl) (own_w hw 18 rfl) (own_w hw 23 rfl) own_lm_28 (rmCp1_0 l Z a0 hw [] wcs hS a ka b44 k44 v0 h44 n0 O49 F45 Y44 g46 F47 V44 (by assumption)) e44 own_pd_115 (argsL := [(.ref a), (.int (0 : Int32)), (.ref b44), (.int (0 : Int32)), (.int (1 : Int32))]) (rest := []) rfl rfl (g := (mkF m 9 #[.val (.ref a), .val (.int (0 : Int32)), .val (.int (1 : Int32)), .val (.ref b44), .unset, .unset] [(.int (1 : Int32)), (.int (0 : Int32)), (.ref b44), (.int (0 : Int32)), (.ref a)])) rfl (by rw [hml]; rfl) rfl (hb hby own_d_jdk_52_16_9) (W := 0) rfl (by decide) (by decide) (by decide) (by decide)
  obtain ⟨rfl, M48, K48, F50⟩ := hQ48
  have N48 := Fr.app N0 M48
  refine own_st (fun u_ k_ => st48 u_ k_) ?_
  show own_Go p e below _ (T48.setTop (mkF m 12 #[.val (.ref a), .val (.int (0 : Int32)), .val (.int (1 : Int32)), .val (.ref b44), .unset, .unset] [(.int (0 : Int32))]))
  refine own_st (fun u_ k_ => XS.istore X48.here hx rfl (hb hby own_d_jdk_52_16_12) rfl (l' := #[.val (.ref a), .val (.int (0 : Int32)), .val (.int (1 : Int32)), .val (.ref b44), .val (.int (0 : Int32)), .unset]) rfl k_) ?_
  show own_Go p e below _ (T48.setTop (mkF m 14 #[.val (.ref a), .val (.int (0 : Int32)), .val (.int (1 : Int32)), .val (.ref b44), .val (.int (0 : Int32)), .unset] []))
  refine own_st (fun u_ k_ => XS.iload X48.here hx rfl (hb hby own_d_jdk_52_16_14) rfl k_) ?_
  show own_Go p e below _ (T48.setTop (mkF m 16 #[.val (.ref a), .val (.int (0 : Int32)), .val (.int (1 : Int32)), .val (.ref b44), .val (.int (0 : Int32)), .unset] [(.int (0 : Int32))]))
  refine own_st (fun u_ k_ => XS.iloadN X48.here hx rfl (hb hby own_d_jdk_52_16_16) rfl k_) ?_
  show own_Go p e below _ (T48.setTop (mkF m 17 #[.val (.ref a), .val (.int (0 : Int32)), .val (.int (1 : Int32)), .val (.ref b44), .val (.int (0 : Int32)), .unset] [(.int (1 : Int32)), (.int (0 : Int32))]))
  refine own_st (fun u_ k_ => XS.icmpNo X48.here hx rfl (hb hby own_d_jdk_52_16_17) rfl (XT.ii_eq_f (by decide)) k_) ?_
  show own_Go p e below _ (T48.setTop (mkF m 20 #[.val (.ref a), .val (.int (0 : Int32)), .val (.int (1 : Int32)), .val (.ref b44), .val (.int (0 : Int32)), .unset] []))
  refine own_st (fun u_ k_ => XS.aloadN X48.here hx rfl (hb hby own_d_jdk_52_16_20) rfl rfl k_) ?_
  show own_Go p e below _ (T48.setTop (mkF m 21 #[.val (.ref a), .val (.int (0 : Int32)), .val (.int (1 : Int32)), .val (.ref b44), .val (.int (0 : Int32)), .unset] [(.ref a)]))
  refine own_st (fun u_ k_ => XS.iloadN X48.here hx rfl (hb hby own_d_jdk_52_16_21) rfl k_) ?_
  show own_Go p e below _ (T48.setTop (mkF m 22 #[.val (.ref a), .val (.int (0 : Int32)), .val (.int (1 : Int32)), .val (.ref b44), .val (.int (0 : Int32)), .unset] [(.int (0 : Int32)), (.ref a)]))
  refine own_st (fun u_ k_ => XS.iloadN X48.here hx rfl (hb hby own_d_jdk_52_16_22) rfl k_) ?_
  show own_Go p e below _ (T48.setTop (mkF m 23 #[.val (.ref a), .val (.int (0 : Int32)), .val (.int (1 : Int32)), .val (.ref b44), .val (.int (0 : Int32)), .unset] [(.int (1 : Int32)), (.int (0 : Int32)), (.ref a)]))
  have F51 := (F45.keep K48)
  have ne52 : a ≠ b44 := (Nat.ne_of_lt (Nat.lt_of_lt_of_le Ea.lt (Nat.le_of_eq g44.symm)))
  have F53 := (F47.keep K48 (ninS ne52 nin0))
  have O55 : Old Z n0 T48.heap := O49.keep K48 (allS g46 all0)
  obtain ⟨T54, v54, L54, X54, hQ54, st54⟩ := own_callS X48 hx hZ (y := own_y_104) hown (own_w hw 59 rfl) (own_w hw 60 rfl) (own_w hw 18 rfl) (own_w hw 61 rfl) own_lm_28 (rmTB1 l Z a0 hw [] wcs hS a ka v0 T48.heap n0 O55 F51 F53) rfl own_pd_124 (argsL := [(.ref a), (.int (0 : Int32)), (.int (1 : Int32))]) (rest := []) rfl rfl (g := (mkF m 23 #[.val (.ref a), .val (.int (0 : Int32)), .val (.int (1 : Int32)), .val (.ref b44), .val (.int (0 : Int32)), .unset] [(.int (1 : Int32)), (.int (0 : Int32)), (.ref a)])) rfl (by rw [hml]; rfl) rfl (hb hby own_d_jdk_52_16_23) (W := 0) rfl (by decide) (by decide) (by decide) (by decide)
  obtain ⟨r_56, kr_57, rfl, M54, K54, z58, F59, F60⟩ := hQ54
  have N54 := Fr.app N48 M54
  refine own_st (fun u_ k_ => st54 u_ k_) ?_
  show own_Go p e below _ (T54.setTop (mkF m 26 #[.val (.ref a), .val (.int (0 : Int32)), .val (.int (1 : Int32)), .val (.ref b44), .val (.int (0 : Int32)), .unset] [(.ref r_56)]))
  refine own_st (fun u_ k_ => XS.astore X54.here hx rfl (hb hby own_d_jdk_52_16_26) rfl rfl (l' := #[.val (.ref a), .val (.int (0 : Int32)), .val (.int (1 : Int32)), .val (.ref b44), .val (.int (0 : Int32)), .val (.ref r_56)]) rfl k_) ?_
  show own_Go p e below _ (T54.setTop (mkF m 28 #[.val (.ref a), .val (.int (0 : Int32)), .val (.int (1 : Int32)), .val (.ref b44), .val (.int (0 : Int32)), .val (.ref r_56)] []))
  refine own_st (fun u_ k_ => XS.aload X54.here hx rfl (hb hby own_d_jdk_52_16_28) rfl rfl k_) ?_
  show own_Go p e below _ (T54.setTop (mkF m 30 #[.val (.ref a), .val (.int (0 : Int32)), .val (.int (1 : Int32)), .val (.ref b44), .val (.int (0 : Int32)), .val (.ref r_56)] [(.ref r_56)]))
  refine own_st (fun u_ k_ => XS.iload X54.here hx rfl (hb hby own_d_jdk_52_16_30) rfl k_) ?_
  show own_Go p e below _ (T54.setTop (mkF m 32 #[.val (.ref a), .val (.int (0 : Int32)), .val (.int (1 : Int32)), .val (.ref b44), .val (.int (0 : Int32)), .val (.ref r_56)] [(.int (0 : Int32)), (.ref r_56)]))
  have O62 : Old Z n0 T54.heap := O55.keep K54 all0
  obtain ⟨T61, v61, L61, X61, hQ61, st61⟩ := own_callS X54 hx hZ (y := own_y_81) hown (own_w hw 75 rfl) (own_w hw 76 rfl) (own_w hw 18 rfl) (own_w hw 77 rfl) own_lm_28 (rmGC1_0 l Z a0 hw [] wcs hS r_56 kr_57 ((v0 >>> ((0 : Int32) &&& 31)).toInt8.toInt32) ((v0 >>> ((8 : Int32) &&& 31)).toInt8.toInt32) T54.heap n0 O62 F60) rfl own_pd_129 (argsL := [(.ref r_56), (.int (0 : Int32))]) (rest := []) rfl rfl (g := (mkF m 32 #[.val (.ref a), .val (.int (0 : Int32)), .val (.int (1 : Int32)), .val (.ref b44), .val (.int (0 : Int32)), .val (.ref r_56)] [(.int (0 : Int32)), (.ref r_56)])) rfl (by rw [hml]; rfl) rfl (hb hby own_d_jdk_52_16_32) (W := 0) rfl (by decide) (by decide) (by decide) (by decide)
  obtain ⟨rfl, M61, e61⟩ := hQ61
  have N61 := Fr.app N54 M61
  refine own_st (fun u_ k_ => st61 u_ k_) ?_
  show own_Go p e below _ (T61.setTop (mkF m 35 #[.val (.ref a), .val (.int (0 : Int32)), .val (.int (1 : Int32)), .val (.ref b44), .val (.int (0 : Int32)), .val (.ref r_56)] [(.int ((((((v0 >>> ((0 : Int32) &&& 31)).toInt8.toInt32) &&& (255 : Int32)) <<< ((0 : Int32) &&& 31)) ||| ((((v0 >>> ((8 : Int32) &&& 31)).toInt8.toInt32) &&& (255 : Int32)) <<< ((8 : Int32) &&& 31))).toUInt32.toUInt16.toUInt32.toInt32))]))
  refine own_st (fun u_ k_ => XS.sipush X61.here hx rfl (hb hby own_d_jdk_52_16_35) k_) ?_
  show own_Go p e below _ (T61.setTop (mkF m 38 #[.val (.ref a), .val (.int (0 : Int32)), .val (.int (1 : Int32)), .val (.ref b44), .val (.int (0 : Int32)), .val (.ref r_56)] [(.int (255 : Int32)), (.int ((((((v0 >>> ((0 : Int32) &&& 31)).toInt8.toInt32) &&& (255 : Int32)) <<< ((0 : Int32) &&& 31)) ||| ((((v0 >>> ((8 : Int32) &&& 31)).toInt8.toInt32) &&& (255 : Int32)) <<< ((8 : Int32) &&& 31))).toUInt32.toUInt16.toUInt32.toInt32))]))
  refine own_st (fun u_ k_ => XS.icmpYes X61.here hx rfl (pc0 := 38) (pc' := 54) rfl (hb hby own_d_jdk_52_16_38) rfl (XT.ii_gt_t (by rw [own_gc _ w0]; exact q0)) (by decide) (by decide) k_) ?_
  show own_Go p e below _ (T61.setTop (mkF m 54 #[.val (.ref a), .val (.int (0 : Int32)), .val (.int (1 : Int32)), .val (.ref b44), .val (.int (0 : Int32)), .val (.ref r_56)] []))
  refine own_st (fun u_ k_ => XS.aload X61.here hx rfl (hb hby own_d_jdk_52_16_54) rfl rfl k_) ?_
  show own_Go p e below _ (T61.setTop (mkF m 56 #[.val (.ref a), .val (.int (0 : Int32)), .val (.int (1 : Int32)), .val (.ref b44), .val (.int (0 : Int32)), .val (.ref r_56)] [(.ref r_56)]))
  have K63 : Keep h0 h44 [] := (Keep.refl h0 []).ext E44
  have z65 : h0.size ≤ b44 := Nat.le_trans (Nat.le_refl _) (Nat.le_of_eq g44.symm)
  have K64 : Keep h0 T48.heap [] := K63.trans K48 (allS (Or.inr z65) all0)
  have K66 : Keep h0 T54.heap [] := K64.trans K54 all0
  have z67 : h0.size ≤ r_56 := Nat.le_trans (Nat.le_trans E44.1 K48.1) z58
  exact own_retX X61 hx hlk hret rfl (Or.inr (Or.inr (Or.inr (Or.inr ⟨rfl, rfl, rfl⟩)))) (hb hby own_d_jdk_52_16_56) (by decide) (by decide) (show QrmCq1_0 Z wcs a ka v0 h0 n0 (some (.ref r_56)) T61.heap _ from (by rw [e61]; exact ⟨r_56, kr_57, rfl, N61, K66, z67, F59, F60⟩))
theorem own_d_jdk_52_15_0 : decode jdk_52_method_15_code 0 = .ok (.iload_n 1, 1) := by decide +kernel
theorem own_d_jdk_52_15_1 : decode jdk_52_method_15_code 1 = .ok (.aload_n 0, 1) := by decide +kernel
theorem own_d_jdk_52_15_2 : decode jdk_52_method_15_code 2 = .ok (.arraylength, 1) := by decide +kernel
theorem own_d_jdk_52_15_3 : decode jdk_52_method_15_code 3 = .ok (.isub, 1) := by decide +kernel
theorem own_d_jdk_52_15_4 : decode jdk_52_method_15_code 4 = .ok (.bipush 31, 2) := by decide +kernel
theorem own_d_jdk_52_15_6 : decode jdk_52_method_15_code 6 = .ok (.iushr, 1) := by decide +kernel
theorem own_d_jdk_52_15_7 : decode jdk_52_method_15_code 7 = .ok (.i2b, 1) := by decide +kernel
theorem own_d_jdk_52_15_8 : decode jdk_52_method_15_code 8 = .ok (.ireturn, 1) := by decide +kernel
abbrev own_y_143 : MethodName := ⟨"java/lang/StringUTF16", "coderFromArrayLen", "([BI)B"⟩
theorem own_ef_rmCo1_2 (m : MethodId) (b : Addr)  : entryFrame m #[(.ref b), (.int (1 : Int32))] 2 = mkF m 0 #[.val (.ref b), .val (.int (1 : Int32))] [] := by first | (simp [entryFrame, mkF, argsToLocals, Value.category, maxLocals]; done) | rfl
def QrmCo1_2 (Z : State) (wcs : Int32) (b : Addr) (kb : ClassId) (vs : List Value) (h0 : Heap) (n0 : Nat) (v : Option Value) (h : Heap) (L : List Loc) : Prop := v = some (.int (1 : Int32)) ∧ Fr n0 L ∧ h = h0
set_option maxRecDepth 65536 in
set_option maxHeartbeats 40000000 in
theorem rmCo1_2 (l : Launch) (Z : State) (a0 : Array Value) (hw : own_H a0 Z) (ws : List Jvm.Cond) (wcs : Int32) (hS : own_S Z wcs) (b : Addr) (kb : ClassId) (vs : List Value) (h0 : Heap) (n0 : Nat) (O0 : Old Z n0 h0) (A2 : Arv Z h0 b kb .byte (2 : Int32) vs (.int (0 : Int32))) :
    own_Met l own_y_143 jdk_52_method_15_code 2 (some .byte) ws ({ frames := 0, cells := 0, slots := 0, locals := 0 } : Room) Z h0 #[(.ref b), (.int (1 : Int32))] (QrmCo1_2 Z wcs b kb vs h0 n0) := by
  refine own_body (plainFor_of_name own_pn_15) ?_
  intro p e s m below meth c s₁ hx hby hml hown hnm hret hlk hZ e0 X0
  have N0 := Fr.nil n0
  refine own_st (fun u_ k_ => castTop (own_ef_rmCo1_2 m b) k_) ?_
  show own_Go p e below _ (s₁.setTop (mkF m 0 #[.val (.ref b), .val (.int (1 : Int32))] []))
  refine own_st (fun u_ k_ => XS.iloadN X0.here hx rfl (hb hby own_d_jdk_52_15_0) rfl k_) ?_
  show own_Go p e below _ (s₁.setTop (mkF m 1 #[.val (.ref b), .val (.int (1 : Int32))] [(.int (1 : Int32))]))
  refine own_st (fun u_ k_ => XS.aloadN X0.here hx rfl (hb hby own_d_jdk_52_15_1) rfl rfl k_) ?_
  show own_Go p e below _ (s₁.setTop (mkF m 2 #[.val (.ref b), .val (.int (1 : Int32))] [(.ref b), (.int (1 : Int32))]))
  obtain ⟨cl68, Ar68, -, S68, N68, -, -⟩ := id A2
  refine own_st (X0.arraylength hx (by rw [e0]; exact Ar68.1) (State.isArrayOf_alike hZ.alike Ar68.2.1) (g := (mkF m 2 #[.val (.ref b), .val (.int (1 : Int32))] [(.ref b), (.int (1 : Int32))])) rfl rfl (hb hby own_d_jdk_52_15_2)) ?_
  rw [len_of S68 N68]
  show own_Go p e below _ (s₁.setTop (mkF m 3 #[.val (.ref b), .val (.int (1 : Int32))] [(.int (2 : Int32)), (.int (1 : Int32))]))
  refine own_st (fun u_ k_ => XS.isub X0.here hx rfl (hb hby own_d_jdk_52_15_3) rfl k_) ?_
  show own_Go p e below _ (s₁.setTop (mkF m 4 #[.val (.ref b), .val (.int (1 : Int32))] [(.int (-1 : Int32))]))
  refine own_st (fun u_ k_ => XS.bipush X0.here hx rfl (hb hby own_d_jdk_52_15_4) k_) ?_
  show own_Go p e below _ (s₁.setTop (mkF m 6 #[.val (.ref b), .val (.int (1 : Int32))] [(.int (31 : Int32)), (.int (-1 : Int32))]))
  refine own_st (fun u_ k_ => XS.iushr X0.here hx rfl (hb hby own_d_jdk_52_15_6) rfl k_) ?_
  show own_Go p e below _ (s₁.setTop (mkF m 7 #[.val (.ref b), .val (.int (1 : Int32))] [(.int (1 : Int32))]))
  refine own_st (fun u_ k_ => XS.i2b X0.here hx rfl (hb hby own_d_jdk_52_15_7) rfl k_) ?_
  show own_Go p e below _ (s₁.setTop (mkF m 8 #[.val (.ref b), .val (.int (1 : Int32))] [(.int (1 : Int32))]))
  exact own_retX X0 hx hlk hret rfl (Or.inl ⟨rfl, by simp, _, rfl⟩) (hb hby own_d_jdk_52_15_8) (by decide) (by decide) (show QrmCo1_2 Z wcs b kb vs h0 n0 (some (.int (1 : Int32))) s₁.heap _ from (by rw [e0]; exact ⟨rfl, N0, rfl⟩))
theorem own_d_jdk_42_149_0 : decode jdk_42_method_149_code 0 = .ok (.aload_n 0, 1) := by decide +kernel
theorem own_d_jdk_42_149_1 : decode jdk_42_method_149_code 1 = .ok (.invokespecial 1, 3) := by decide +kernel
theorem own_d_jdk_42_149_4 : decode jdk_42_method_149_code 4 = .ok (.iload_n 3, 1) := by decide +kernel
theorem own_d_jdk_42_149_5 : decode jdk_42_method_149_code 5 = .ok (.ifCond .ne 22, 3) := by decide +kernel
theorem own_d_jdk_42_149_27 : decode jdk_42_method_149_code 27 = .ok (.getstatic 38, 3) := by decide +kernel
theorem own_d_jdk_42_149_30 : decode jdk_42_method_149_code 30 = .ok (.ifCond .eq 28, 3) := by decide +kernel
theorem own_d_jdk_42_149_33 : decode jdk_42_method_149_code 33 = .ok (.aload_n 1, 1) := by decide +kernel
theorem own_d_jdk_42_149_34 : decode jdk_42_method_149_code 34 = .ok (.iload_n 2, 1) := by decide +kernel
theorem own_d_jdk_42_149_35 : decode jdk_42_method_149_code 35 = .ok (.iload_n 3, 1) := by decide +kernel
theorem own_d_jdk_42_149_36 : decode jdk_42_method_149_code 36 = .ok (.invokestatic 177, 3) := by decide +kernel
theorem own_d_jdk_42_149_39 : decode jdk_42_method_149_code 39 = .ok (.astore 5, 2) := by decide +kernel
theorem own_d_jdk_42_149_41 : decode jdk_42_method_149_code 41 = .ok (.aload_n 0, 1) := by decide +kernel
theorem own_d_jdk_42_149_42 : decode jdk_42_method_149_code 42 = .ok (.aload 5, 2) := by decide +kernel
theorem own_d_jdk_42_149_44 : decode jdk_42_method_149_code 44 = .ok (.iload_n 3, 1) := by decide +kernel
theorem own_d_jdk_42_149_45 : decode jdk_42_method_149_code 45 = .ok (.invokestatic 47, 3) := by decide +kernel
theorem own_pd_160 : parseMethodDescriptor "([BI)B" = some ⟨[(.array .byte), .int], some .byte⟩ := by decide +kernel
theorem own_d_jdk_42_149_48 : decode jdk_42_method_149_code 48 = .ok (.putfield 15, 3) := by decide +kernel
theorem own_lm_162 : parseFieldDescriptor "B" = some .byte := by decide +kernel
theorem own_d_jdk_42_149_51 : decode jdk_42_method_149_code 51 = .ok (.aload_n 0, 1) := by decide +kernel
theorem own_d_jdk_42_149_52 : decode jdk_42_method_149_code 52 = .ok (.aload 5, 2) := by decide +kernel
theorem own_d_jdk_42_149_54 : decode jdk_42_method_149_code 54 = .ok (.putfield 9, 3) := by decide +kernel
theorem own_lm_166 : ("value" : String) ≠ "coder" := by decide +kernel
theorem own_lm_167 : parseFieldDescriptor "[B" = some (.array .byte) := by decide +kernel
def own_sn_168 {Z : State} {a0 : Array Value} (hw : own_H a0 Z) := slot_ne (Or.inr (own_w hw 30 rfl)) (Or.inr (own_w hw 28 rfl)) own_lm_166 (t := (.array .byte)) (t' := .byte) own_lm_167 own_lm_162
theorem own_d_jdk_42_149_57 : decode jdk_42_method_149_code 57 = .ok (.return_, 1) := by decide +kernel
theorem own_lm_170 : ("coder" : String) ≠ "value" := by decide +kernel
def own_sn_171 {Z : State} {a0 : Array Value} (hw : own_H a0 Z) := slot_ne (Or.inr (own_w hw 28 rfl)) (Or.inr (own_w hw 30 rfl)) own_lm_170 (t := .byte) (t' := (.array .byte)) own_lm_162 own_lm_167
abbrev own_y_172 : MethodName := ⟨"java/lang/String", "<init>", "([CIILjava/lang/Void;)V"⟩
theorem own_pn_173 : plainName "java/lang/String" = true := by first | (simp [plainName, overriddenIn]; done) | decide +kernel
theorem own_ef_rmS4_1_0 (m : MethodId) (a : Addr) (b : Addr)  : entryFrame m #[(.ref a), (.ref b), (.int (0 : Int32)), (.int (1 : Int32)), .null] 6 = mkF m 0 #[.val (.ref a), .val (.ref b), .val (.int (0 : Int32)), .val (.int (1 : Int32)), .val .null, .unset] [] := by first | (simp [entryFrame, mkF, argsToLocals, Value.category, maxLocals]; done) | rfl
def QrmS4_1_0 (Z : State) (wcs : Int32) (a : Addr) (b : Addr) (kb : ClassId) (v0 : Int32) (h0 : Heap) (n0 : Nat) (v : Option Value) (h : Heap) (L : List Loc) : Prop := ∃ r : Addr, ∃ kr : ClassId, v = none ∧ Fr n0 L ∧ Keep h0 h [a] ∧ h0.size ≤ r ∧ Exa Z h a "java/lang/String" ∧ Fld Z h a "java/lang/String" "value" "[B" (.ref r) ∧ Fld Z h a "java/lang/String" "coder" "B" (.int (1 : Int32)) ∧ Exa Z h r "[B" ∧ Arv Z h r kr .byte (2 : Int32) [(.int ((v0 >>> ((0 : Int32) &&& 31)).toInt8.toInt32)), (.int ((v0 >>> ((8 : Int32) &&& 31)).toInt8.toInt32))] (.int (0 : Int32))
set_option maxRecDepth 65536 in
set_option maxHeartbeats 40000000 in
theorem rmS4_1_0 (l : Launch) (Z : State) (a0 : Array Value) (hw : own_H a0 Z) (ws : List Jvm.Cond) (wcs : Int32) (hS : own_S Z wcs) (a : Addr) (b : Addr) (kb : ClassId) (v0 : Int32) (h0 : Heap) (n0 : Nat) (O0 : Old Z n0 h0) (E : Exa Z h0 a "java/lang/String") (Ea : Exa Z h0 b "[C") (ga : n0 ≤ a) (F1 : Fld Z h0 a "java/lang/String" "value" "[B" .null) (F2 : Fld Z h0 a "java/lang/String" "coder" "B" (.int (0 : Int32))) (A1 : Arv Z h0 b kb .char (1 : Int32) [(.int v0)] (.int (0 : Int32))) (q0 : (255 : Int32) < v0) (w0 : own_C16 v0) :
    own_Met l own_y_172 jdk_42_method_149_code 6 none ws ({ frames := 4, cells := 2, slots := 3, locals := 57 } : Room) Z h0 #[(.ref a), (.ref b), (.int (0 : Int32)), (.int (1 : Int32)), .null] (QrmS4_1_0 Z wcs a b kb v0 h0 n0) := by
  refine own_body (plainFor_of_name own_pn_173) ?_
  intro p e s m below meth c s₁ hx hby hml hown hnm hret hlk hZ e0 X0
  have N0 := Fr.nil n0
  refine own_st (fun u_ k_ => castTop (own_ef_rmS4_1_0 m a b) k_) ?_
  show own_Go p e below _ (s₁.setTop (mkF m 0 #[.val (.ref a), .val (.ref b), .val (.int (0 : Int32)), .val (.int (1 : Int32)), .val .null, .unset] []))
  refine own_st (fun u_ k_ => XS.aloadN X0.here hx rfl (hb hby own_d_jdk_42_149_0) rfl rfl k_) ?_
  show own_Go p e below _ (s₁.setTop (mkF m 1 #[.val (.ref a), .val (.ref b), .val (.int (0 : Int32)), .val (.int (1 : Int32)), .val .null, .unset] [(.ref a)]))
  obtain ⟨T69, X69, e69, st69⟩ := initO X0 hx hZ hown (own_w hw 12 rfl) (own_w hw 13 rfl) (own_w hw 14 rfl) e0 (g := (mkF m 1 #[.val (.ref a), .val (.ref b), .val (.int (0 : Int32)), .val (.int (1 : Int32)), .val .null, .unset] [(.ref a)])) rfl (by rw [hml]; rfl) rfl (hb hby own_d_jdk_42_149_1) (by decide) (W := 0) (by show 2 * 0 + _ ≤ _; exact Nat.le_of_eq rfl) (by decide)
  refine own_st (fun u_ k_ => st69 u_ k_) ?_
  show own_Go p e below _ (T69.setTop (mkF m 4 #[.val (.ref a), .val (.ref b), .val (.int (0 : Int32)), .val (.int (1 : Int32)), .val .null, .unset] []))
  refine own_st (fun u_ k_ => XS.iloadN X69.here hx rfl (hb hby own_d_jdk_42_149_4) rfl k_) ?_
  show own_Go p e below _ (T69.setTop (mkF m 5 #[.val (.ref a), .val (.ref b), .val (.int (0 : Int32)), .val (.int (1 : Int32)), .val .null, .unset] [(.int (1 : Int32))]))
  refine own_st (fun u_ k_ => XS.ifYes X69.here hx rfl (pc0 := 5) (pc' := 27) rfl (hb hby own_d_jdk_42_149_5) rfl (XT.i0_ne_t (by decide)) (by decide) (by decide) k_) ?_
  show own_Go p e below _ (T69.setTop (mkF m 27 #[.val (.ref a), .val (.ref b), .val (.int (0 : Int32)), .val (.int (1 : Int32)), .val .null, .unset] []))
  have F70 := Sta.ext O0.2 hS.1
  obtain ⟨T71, X71, e71, st71⟩ := getS2 X69 hx hZ hown (host := "") (Or.inl (own_w hw 15 rfl)) Via.refl e69 F70 (g := (mkF m 27 #[.val (.ref a), .val (.ref b), .val (.int (0 : Int32)), .val (.int (1 : Int32)), .val .null, .unset] [])) rfl (hb hby own_d_jdk_42_149_27)
  refine own_st (fun u_ k_ => st71 u_ k_) ?_
  show own_Go p e below _ (T71.setTop (mkF m 30 #[.val (.ref a), .val (.ref b), .val (.int (0 : Int32)), .val (.int (1 : Int32)), .val .null, .unset] [(.int wcs)]))
  refine own_st (fun u_ k_ => XS.ifNo X71.here hx rfl (hb hby own_d_jdk_42_149_30) rfl (XT.i0_eq_f hS.2.1) k_) ?_
  show own_Go p e below _ (T71.setTop (mkF m 33 #[.val (.ref a), .val (.ref b), .val (.int (0 : Int32)), .val (.int (1 : Int32)), .val .null, .unset] []))
  refine own_st (fun u_ k_ => XS.aloadN X71.here hx rfl (hb hby own_d_jdk_42_149_33) rfl rfl k_) ?_
  show own_Go p e below _ (T71.setTop (mkF m 34 #[.val (.ref a), .val (.ref b), .val (.int (0 : Int32)), .val (.int (1 : Int32)), .val .null, .unset] [(.ref b)]))
  refine own_st (fun u_ k_ => XS.iloadN X71.here hx rfl (hb hby own_d_jdk_42_149_34) rfl k_) ?_
  show own_Go p e below _ (T71.setTop (mkF m 35 #[.val (.ref a), .val (.ref b), .val (.int (0 : Int32)), .val (.int (1 : Int32)), .val .null, .unset] [(.int (0 : Int32)), (.ref b)]))
  refine own_st (fun u_ k_ => XS.iloadN X71.here hx rfl (hb hby own_d_jdk_42_149_35) rfl k_) ?_
  show own_Go p e below _ (T71.setTop (mkF m 36 #[.val (.ref a), .val (.ref b), .val (.int (0 : Int32)), .val (.int (1 : Int32)), .val .null, .unset] [(.int (1 : Int32)), (.int (0 : Int32)), (.ref b)]))
  obtain ⟨T72, v72, L72, X72, hQ72, st72⟩ := own_callS X71 hx hZ (y := own_y_134) hown (own_w hw 16 rfl) (own_w hw 17 rfl) (own_w hw 18 rfl) (own_w hw 19 rfl) own_lm_28 (rmCq1_0 l Z a0 hw [] wcs hS b kb v0 h0 n0 O0 Ea A1 (by assumption) (by assumption)) e71 own_pd_124 (argsL := [(.ref b), (.int (0 : Int32)), (.int (1 : Int32))]) (rest := []) rfl rfl (g := (mkF m 36 #[.val (.ref a), .val (.ref b), .val (.int (0 : Int32)), .val (.int (1 : Int32)), .val .null, .unset] [(.int (1 : Int32)), (.int (0 : Int32)), (.ref b)])) rfl (by rw [hml]; rfl) rfl (hb hby own_d_jdk_42_149_36) (W := 0) rfl (by decide) (by decide) (by decide) (by decide)
  obtain ⟨r_73, kr_74, rfl, M72, K72, z75, F76, F77⟩ := hQ72
  have N72 := Fr.app N0 M72
  refine own_st (fun u_ k_ => st72 u_ k_) ?_
  show own_Go p e below _ (T72.setTop (mkF m 39 #[.val (.ref a), .val (.ref b), .val (.int (0 : Int32)), .val (.int (1 : Int32)), .val .null, .unset] [(.ref r_73)]))
  refine own_st (fun u_ k_ => XS.astore X72.here hx rfl (hb hby own_d_jdk_42_149_39) rfl rfl (l' := #[.val (.ref a), .val (.ref b), .val (.int (0 : Int32)), .val (.int (1 : Int32)), .val .null, .val (.ref r_73)]) rfl k_) ?_
  show own_Go p e below _ (T72.setTop (mkF m 41 #[.val (.ref a), .val (.ref b), .val (.int (0 : Int32)), .val (.int (1 : Int32)), .val .null, .val (.ref r_73)] []))
  refine own_st (fun u_ k_ => XS.aloadN X72.here hx rfl (hb hby own_d_jdk_42_149_41) rfl rfl k_) ?_
  show own_Go p e below _ (T72.setTop (mkF m 42 #[.val (.ref a), .val (.ref b), .val (.int (0 : Int32)), .val (.int (1 : Int32)), .val .null, .val (.ref r_73)] [(.ref a)]))
  refine own_st (fun u_ k_ => XS.aload X72.here hx rfl (hb hby own_d_jdk_42_149_42) rfl rfl k_) ?_
  show own_Go p e below _ (T72.setTop (mkF m 44 #[.val (.ref a), .val (.ref b), .val (.int (0 : Int32)), .val (.int (1 : Int32)), .val .null, .val (.ref r_73)] [(.ref r_73), (.ref a)]))
  refine own_st (fun u_ k_ => XS.iloadN X72.here hx rfl (hb hby own_d_jdk_42_149_44) rfl k_) ?_
  show own_Go p e below _ (T72.setTop (mkF m 45 #[.val (.ref a), .val (.ref b), .val (.int (0 : Int32)), .val (.int (1 : Int32)), .val .null, .val (.ref r_73)] [(.int (1 : Int32)), (.ref r_73), (.ref a)]))
  have O79 : Old Z n0 T72.heap := O0.keep K72 all0
  obtain ⟨T78, v78, L78, X78, hQ78, st78⟩ := own_callS X72 hx hZ (y := own_y_143) hown (own_w hw 24 rfl) (own_w hw 25 rfl) (own_w hw 18 rfl) (own_w hw 26 rfl) own_lm_28 (rmCo1_2 l Z a0 hw [] wcs hS r_73 kr_74 [(.int ((v0 >>> ((0 : Int32) &&& 31)).toInt8.toInt32)), (.int ((v0 >>> ((8 : Int32) &&& 31)).toInt8.toInt32))] T72.heap n0 O79 F77) rfl own_pd_160 (argsL := [(.ref r_73), (.int (1 : Int32))]) (rest := [(.ref a)]) rfl rfl (g := (mkF m 45 #[.val (.ref a), .val (.ref b), .val (.int (0 : Int32)), .val (.int (1 : Int32)), .val .null, .val (.ref r_73)] [(.int (1 : Int32)), (.ref r_73), (.ref a)])) rfl (by rw [hml]; rfl) rfl (hb hby own_d_jdk_42_149_45) (W := 1) rfl (by decide) (by decide) (by decide) (by decide)
  obtain ⟨rfl, M78, e78⟩ := hQ78
  have N78 := Fr.app N72 M78
  refine own_st (fun u_ k_ => st78 u_ k_) ?_
  show own_Go p e below _ (T78.setTop (mkF m 48 #[.val (.ref a), .val (.ref b), .val (.int (0 : Int32)), .val (.int (1 : Int32)), .val .null, .val (.ref r_73)] [(.int (1 : Int32)), (.ref a)]))
  have F80 := (E.keep K72)
  have F81 := (F2.keep K72 nin0)
  obtain ⟨T82, h82, X82, e82, W82, st82⟩ := putF X78 hx hZ hown (host := "") (Or.inl (own_w hw 27 rfl)) Via.refl e78 F81 F80 (Or.inr ⟨(own_w hw 28 rfl), rfl, hnm⟩) (own_w hw 3 rfl) (ty := .byte) own_lm_162 rfl rfl (g := (mkF m 48 #[.val (.ref a), .val (.ref b), .val (.int (0 : Int32)), .val (.int (1 : Int32)), .val .null, .val (.ref r_73)] [(.int (1 : Int32)), (.ref a)])) rfl rfl (hb hby own_d_jdk_42_149_48)
  have N82 := Fr.snoc X82 N78 ga
  have F83 : Fld Z h82 a "java/lang/String" "coder" "B" (.int (1 : Int32)) := Fld.same W82 F81
  refine own_st (fun u_ k_ => st82 u_ k_) ?_
  show own_Go p e below _ (T82.setTop (mkF m 51 #[.val (.ref a), .val (.ref b), .val (.int (0 : Int32)), .val (.int (1 : Int32)), .val .null, .val (.ref r_73)] []))
  refine own_st (fun u_ k_ => XS.aloadN X82.here hx rfl (hb hby own_d_jdk_42_149_51) rfl rfl k_) ?_
  show own_Go p e below _ (T82.setTop (mkF m 52 #[.val (.ref a), .val (.ref b), .val (.int (0 : Int32)), .val (.int (1 : Int32)), .val .null, .val (.ref r_73)] [(.ref a)]))
  refine own_st (fun u_ k_ => XS.aload X82.here hx rfl (hb hby own_d_jdk_42_149_52) rfl rfl k_) ?_
  show own_Go p e below _ (T82.setTop (mkF m 54 #[.val (.ref a), .val (.ref b), .val (.int (0 : Int32)), .val (.int (1 : Int32)), .val .null, .val (.ref r_73)] [(.ref r_73), (.ref a)]))
  have F84 := (Exa.wr W82 F80)
  have F85 := (Fld.other W82 (F1.keep K72 nin0) (Or.inr (own_sn_168 hw)))
  obtain ⟨T86, h86, X86, e86, W86, st86⟩ := putF X82 hx hZ hown (host := "") (Or.inl (own_w hw 29 rfl)) Via.refl e82 F85 F84 (Or.inr ⟨(own_w hw 30 rfl), rfl, hnm⟩) (own_w hw 3 rfl) (ty := (.array .byte)) own_lm_167 rfl rfl (g := (mkF m 54 #[.val (.ref a), .val (.ref b), .val (.int (0 : Int32)), .val (.int (1 : Int32)), .val .null, .val (.ref r_73)] [(.ref r_73), (.ref a)])) rfl rfl (hb hby own_d_jdk_42_149_54)
  have N86 := Fr.snoc X86 N82 ga
  have F87 : Fld Z h86 a "java/lang/String" "value" "[B" (.ref r_73) := Fld.same W86 F85
  refine own_st (fun u_ k_ => st86 u_ k_) ?_
  show own_Go p e below _ (T86.setTop (mkF m 57 #[.val (.ref a), .val (.ref b), .val (.int (0 : Int32)), .val (.int (1 : Int32)), .val .null, .val (.ref r_73)] []))
  have K88 : Keep h0 T72.heap [a] := (Keep.refl h0 [a]).trans K72 all0
  have K89 : Keep h0 h82 [a] := K88.wr W82 (Or.inl (List.mem_of_getElem? (i := 0) rfl))
  have K90 : Keep h0 h86 [a] := K89.wr W86 (Or.inl (List.mem_of_getElem? (i := 0) rfl))
  have z91 : h0.size ≤ r_73 := Nat.le_trans (Nat.le_refl _) z75
  have F92 := (Exa.wr W86 F84)
  have F93 := (Fld.other W86 F83 (Or.inr (own_sn_171 hw)))
  have F94 := (Exa.wr W86 (Exa.wr W82 F76))
  have ne95 : r_73 ≠ a := (Ne.symm (Nat.ne_of_lt (Nat.lt_of_lt_of_le E.lt z75)))
  have F96 := ((F77.other W82 ne95).other W86 ne95)
  exact own_retV X86 hx hlk hret (hb hby own_d_jdk_42_149_57) (by decide) (by decide) (show QrmS4_1_0 Z wcs a b kb v0 h0 n0 none T86.heap _ from (by rw [e86]; exact ⟨r_73, kr_74, rfl, N86, K90, z91, F92, F87, F93, F94, F96⟩))
theorem own_d_jdk_42_3_0 : decode jdk_42_method_3_code 0 = .ok (.aload_n 0, 1) := by decide +kernel
theorem own_d_jdk_42_3_1 : decode jdk_42_method_3_code 1 = .ok (.aload_n 1, 1) := by decide +kernel
theorem own_d_jdk_42_3_2 : decode jdk_42_method_3_code 2 = .ok (.iconst 0, 1) := by decide +kernel
theorem own_d_jdk_42_3_3 : decode jdk_42_method_3_code 3 = .ok (.aload_n 1, 1) := by decide +kernel
theorem own_d_jdk_42_3_4 : decode jdk_42_method_3_code 4 = .ok (.arraylength, 1) := by decide +kernel
theorem own_d_jdk_42_3_5 : decode jdk_42_method_3_code 5 = .ok (.aconst_null, 1) := by decide +kernel
theorem own_d_jdk_42_3_6 : decode jdk_42_method_3_code 6 = .ok (.invokespecial 27, 3) := by decide +kernel
theorem own_lm_181 : ("java/lang/String" : String) ≠ "java/lang/invoke/MethodHandle" ∧ ("java/lang/String" : String) ≠ "java/lang/invoke/VarHandle" := by decide +kernel
theorem own_pd_182 : parseMethodDescriptor "([CIILjava/lang/Void;)V" = some ⟨[(.array .char), .int, .int, (.object "java/lang/Void")], none⟩ := by decide +kernel
theorem own_d_jdk_42_3_9 : decode jdk_42_method_3_code 9 = .ok (.return_, 1) := by decide +kernel
theorem own_d_jdk_52_21_26 : decode jdk_52_method_21_code 26 = .ok (.aload_n 2, 1) := by decide +kernel
theorem own_d_jdk_52_21_27 : decode jdk_52_method_21_code 27 = .ok (.iload_n 3, 1) := by decide +kernel
theorem own_d_jdk_52_21_28 : decode jdk_52_method_21_code 28 = .ok (.iload 6, 2) := by decide +kernel
theorem own_d_jdk_52_21_30 : decode jdk_52_method_21_code 30 = .ok (.i2b, 1) := by decide +kernel
theorem own_d_jdk_52_21_31 : decode jdk_52_method_21_code 31 = .ok (.bastore, 1) := by decide +kernel
theorem own_d_jdk_52_21_32 : decode jdk_52_method_21_code 32 = .ok (.iinc 1 1, 3) := by decide +kernel
theorem own_d_jdk_52_21_35 : decode jdk_52_method_21_code 35 = .ok (.iinc 3 1, 3) := by decide +kernel
theorem own_d_jdk_52_21_38 : decode jdk_52_method_21_code 38 = .ok (.iinc 5 1, 3) := by decide +kernel
theorem own_d_jdk_52_21_41 : decode jdk_52_method_21_code 41 = .ok (.goto (-38), 3) := by decide +kernel
theorem own_d_jdk_52_21_44 : decode jdk_52_method_21_code 44 = .ok (.iload 4, 2) := by decide +kernel
theorem own_d_jdk_52_21_46 : decode jdk_52_method_21_code 46 = .ok (.ireturn, 1) := by decide +kernel
theorem own_ef_rmCp1_1 (m : MethodId) (a : Addr) (b : Addr)  : entryFrame m #[(.ref a), (.int (0 : Int32)), (.ref b), (.int (0 : Int32)), (.int (1 : Int32))] 7 = mkF m 0 #[.val (.ref a), .val (.int (0 : Int32)), .val (.ref b), .val (.int (0 : Int32)), .val (.int (1 : Int32)), .unset, .unset] [] := by first | (simp [entryFrame, mkF, argsToLocals, Value.category, maxLocals]; done) | rfl
def QrmCp1_1 (Z : State) (wcs : Int32) (a : Addr) (ka : ClassId) (b : Addr) (kb : ClassId) (v0 : Int32) (h0 : Heap) (n0 : Nat) (v : Option Value) (h : Heap) (L : List Loc) : Prop := v = some (.int (1 : Int32)) ∧ Fr n0 L ∧ Keep h0 h [b] ∧ Exa Z h b "[B" ∧ Arv Z h b kb .byte (1 : Int32) [(.int (v0.toInt8.toInt32))] (.int (0 : Int32))
set_option maxRecDepth 65536 in
set_option maxHeartbeats 40000000 in
theorem rmCp1_1 (l : Launch) (Z : State) (a0 : Array Value) (hw : own_H a0 Z) (ws : List Jvm.Cond) (wcs : Int32) (hS : own_S Z wcs) (a : Addr) (ka : ClassId) (b : Addr) (kb : ClassId) (v0 : Int32) (h0 : Heap) (n0 : Nat) (O0 : Old Z n0 h0) (Ea : Exa Z h0 a "[C") (Eb : Exa Z h0 b "[B") (gb : n0 ≤ b) (A1 : Arv Z h0 a ka .char (1 : Int32) [(.int v0)] (.int (0 : Int32))) (A2 : Arv Z h0 b kb .byte (1 : Int32) [(.int (0 : Int32))] (.int (0 : Int32))) (q0 : ¬ (255 : Int32) < v0) :
    own_Met l own_y_14 jdk_52_method_21_code 7 (some .int) ws ({ frames := 0, cells := 0, slots := 0, locals := 0 } : Room) Z h0 #[(.ref a), (.int (0 : Int32)), (.ref b), (.int (0 : Int32)), (.int (1 : Int32))] (QrmCp1_1 Z wcs a ka b kb v0 h0 n0) := by
  refine own_body (plainFor_of_name own_pn_15) ?_
  intro p e s m below meth c s₁ hx hby hml hown hnm hret hlk hZ e0 X0
  have N0 := Fr.nil n0
  refine own_st (fun u_ k_ => castTop (own_ef_rmCp1_1 m a b) k_) ?_
  show own_Go p e below _ (s₁.setTop (mkF m 0 #[.val (.ref a), .val (.int (0 : Int32)), .val (.ref b), .val (.int (0 : Int32)), .val (.int (1 : Int32)), .unset, .unset] []))
  refine own_st (fun u_ k_ => XS.iconst X0.here hx rfl (hb hby own_d_jdk_52_21_0) k_) ?_
  show own_Go p e below _ (s₁.setTop (mkF m 1 #[.val (.ref a), .val (.int (0 : Int32)), .val (.ref b), .val (.int (0 : Int32)), .val (.int (1 : Int32)), .unset, .unset] [(.int (0 : Int32))]))
  refine own_st (fun u_ k_ => XS.istore X0.here hx rfl (hb hby own_d_jdk_52_21_1) rfl (l' := #[.val (.ref a), .val (.int (0 : Int32)), .val (.ref b), .val (.int (0 : Int32)), .val (.int (1 : Int32)), .val (.int (0 : Int32)), .unset]) rfl k_) ?_
  show own_Go p e below _ (s₁.setTop (mkF m 3 #[.val (.ref a), .val (.int (0 : Int32)), .val (.ref b), .val (.int (0 : Int32)), .val (.int (1 : Int32)), .val (.int (0 : Int32)), .unset] []))
  refine own_st (fun u_ k_ => XS.iload X0.here hx rfl (hb hby own_d_jdk_52_21_3) rfl k_) ?_
  show own_Go p e below _ (s₁.setTop (mkF m 5 #[.val (.ref a), .val (.int (0 : Int32)), .val (.ref b), .val (.int (0 : Int32)), .val (.int (1 : Int32)), .val (.int (0 : Int32)), .unset] [(.int (0 : Int32))]))
  refine own_st (fun u_ k_ => XS.iload X0.here hx rfl (hb hby own_d_jdk_52_21_5) rfl k_) ?_
  show own_Go p e below _ (s₁.setTop (mkF m 7 #[.val (.ref a), .val (.int (0 : Int32)), .val (.ref b), .val (.int (0 : Int32)), .val (.int (1 : Int32)), .val (.int (0 : Int32)), .unset] [(.int (1 : Int32)), (.int (0 : Int32))]))
  refine own_st (fun u_ k_ => XS.icmpNo X0.here hx rfl (hb hby own_d_jdk_52_21_7) rfl (XT.ii_ge_f (by decide)) k_) ?_
  show own_Go p e below _ (s₁.setTop (mkF m 10 #[.val (.ref a), .val (.int (0 : Int32)), .val (.ref b), .val (.int (0 : Int32)), .val (.int (1 : Int32)), .val (.int (0 : Int32)), .unset] []))
  refine own_st (fun u_ k_ => XS.aloadN X0.here hx rfl (hb hby own_d_jdk_52_21_10) rfl rfl k_) ?_
  show own_Go p e below _ (s₁.setTop (mkF m 11 #[.val (.ref a), .val (.int (0 : Int32)), .val (.ref b), .val (.int (0 : Int32)), .val (.int (1 : Int32)), .val (.int (0 : Int32)), .unset] [(.ref a)]))
  refine own_st (fun u_ k_ => XS.iloadN X0.here hx rfl (hb hby own_d_jdk_52_21_11) rfl k_) ?_
  show own_Go p e below _ (s₁.setTop (mkF m 12 #[.val (.ref a), .val (.int (0 : Int32)), .val (.ref b), .val (.int (0 : Int32)), .val (.int (1 : Int32)), .val (.int (0 : Int32)), .unset] [(.int (0 : Int32)), (.ref a)]))
  obtain ⟨cl109, Ar109, q109, S109, N109, H109, G109⟩ := id A1
  have hi109 : ¬ ((0 : Int32) < 0 ∨ cl109.slots.size ≤ ((0 : Int32)).toNatClampNeg) := inb_of S109 ⟨by decide, by decide⟩
  have ha109 : cl109.slots[((0 : Int32)).toNatClampNeg]? = some (.int v0) := H109.at hi109 rfl
  refine own_st (X0.caload hx (j := (0 : Int32)) (v := (.int v0)) (by rw [e0]; exact Ar109.1) (State.isArrayOf_alike hZ.alike Ar109.2.1) Ar109.2.2 hi109 ha109 (g := (mkF m 12 #[.val (.ref a), .val (.int (0 : Int32)), .val (.ref b), .val (.int (0 : Int32)), .val (.int (1 : Int32)), .val (.int (0 : Int32)), .unset] [(.int (0 : Int32)), (.ref a)])) rfl rfl (hb hby own_d_jdk_52_21_12)) ?_
  show own_Go p e below _ (s₁.setTop (mkF m 13 #[.val (.ref a), .val (.int (0 : Int32)), .val (.ref b), .val (.int (0 : Int32)), .val (.int (1 : Int32)), .val (.int (0 : Int32)), .unset] [(.int v0)]))
  refine own_st (fun u_ k_ => XS.istore X0.here hx rfl (hb hby own_d_jdk_52_21_13) rfl (l' := #[.val (.ref a), .val (.int (0 : Int32)), .val (.ref b), .val (.int (0 : Int32)), .val (.int (1 : Int32)), .val (.int (0 : Int32)), .val (.int v0)]) rfl k_) ?_
  show own_Go p e below _ (s₁.setTop (mkF m 15 #[.val (.ref a), .val (.int (0 : Int32)), .val (.ref b), .val (.int (0 : Int32)), .val (.int (1 : Int32)), .val (.int (0 : Int32)), .val (.int v0)] []))
  refine own_st (fun u_ k_ => XS.iload X0.here hx rfl (hb hby own_d_jdk_52_21_15) rfl k_) ?_
  show own_Go p e below _ (s₁.setTop (mkF m 17 #[.val (.ref a), .val (.int (0 : Int32)), .val (.ref b), .val (.int (0 : Int32)), .val (.int (1 : Int32)), .val (.int (0 : Int32)), .val (.int v0)] [(.int v0)]))
  refine own_st (fun u_ k_ => XS.sipush X0.here hx rfl (hb hby own_d_jdk_52_21_17) k_) ?_
  show own_Go p e below _ (s₁.setTop (mkF m 20 #[.val (.ref a), .val (.int (0 : Int32)), .val (.ref b), .val (.int (0 : Int32)), .val (.int (1 : Int32)), .val (.int (0 : Int32)), .val (.int v0)] [(.int (255 : Int32)), (.int v0)]))
  refine own_st (fun u_ k_ => XS.icmpYes X0.here hx rfl (pc0 := 20) (pc' := 26) rfl (hb hby own_d_jdk_52_21_20) rfl (XT.ii_le_t q0) (by decide) (by decide) k_) ?_
  show own_Go p e below _ (s₁.setTop (mkF m 26 #[.val (.ref a), .val (.int (0 : Int32)), .val (.ref b), .val (.int (0 : Int32)), .val (.int (1 : Int32)), .val (.int (0 : Int32)), .val (.int v0)] []))
  refine own_st (fun u_ k_ => XS.aloadN X0.here hx rfl (hb hby own_d_jdk_52_21_26) rfl rfl k_) ?_
  show own_Go p e below _ (s₁.setTop (mkF m 27 #[.val (.ref a), .val (.int (0 : Int32)), .val (.ref b), .val (.int (0 : Int32)), .val (.int (1 : Int32)), .val (.int (0 : Int32)), .val (.int v0)] [(.ref b)]))
  refine own_st (fun u_ k_ => XS.iloadN X0.here hx rfl (hb hby own_d_jdk_52_21_27) rfl k_) ?_
  show own_Go p e below _ (s₁.setTop (mkF m 28 #[.val (.ref a), .val (.int (0 : Int32)), .val (.ref b), .val (.int (0 : Int32)), .val (.int (1 : Int32)), .val (.int (0 : Int32)), .val (.int v0)] [(.int (0 : Int32)), (.ref b)]))
  refine own_st (fun u_ k_ => XS.iload X0.here hx rfl (hb hby own_d_jdk_52_21_28) rfl k_) ?_
  show own_Go p e below _ (s₁.setTop (mkF m 30 #[.val (.ref a), .val (.int (0 : Int32)), .val (.ref b), .val (.int (0 : Int32)), .val (.int (1 : Int32)), .val (.int (0 : Int32)), .val (.int v0)] [(.int v0), (.int (0 : Int32)), (.ref b)]))
  refine own_st (fun u_ k_ => XS.i2b X0.here hx rfl (hb hby own_d_jdk_52_21_30) rfl k_) ?_
  show own_Go p e below _ (s₁.setTop (mkF m 31 #[.val (.ref a), .val (.int (0 : Int32)), .val (.ref b), .val (.int (0 : Int32)), .val (.int (1 : Int32)), .val (.int (0 : Int32)), .val (.int v0)] [(.int (v0.toInt8.toInt32)), (.int (0 : Int32)), (.ref b)]))
  obtain ⟨cl110, Ar110, q110, S110, N110, H110, G110⟩ := id A2
  have hi110 : ¬ ((0 : Int32) < 0 ∨ cl110.slots.size ≤ ((0 : Int32)).toNatClampNeg) := inb_of S110 ⟨by decide, by decide⟩
  obtain ⟨T111, h111, X111, e111, W111, st111⟩ := stB X0 hx hZ e0 Ar110 (j := (0 : Int32)) hi110 (g := (mkF m 31 #[.val (.ref a), .val (.int (0 : Int32)), .val (.ref b), .val (.int (0 : Int32)), .val (.int (1 : Int32)), .val (.int (0 : Int32)), .val (.int v0)] [(.int (v0.toInt8.toInt32)), (.int (0 : Int32)), (.ref b)])) rfl rfl (hb hby own_d_jdk_52_21_31)
  rw [own_bb] at W111
  have N111 := Fr.snoc X111 N0 gb
  have V111 : Arv Z h111 b kb .byte (1 : Int32) [(.int (v0.toInt8.toInt32))] (.int (0 : Int32)) := Arv.set Ar110 q110 S110 N110 H110 G110 (fits_nar_byte _) W111 0 rfl (Nat.le_of_ble_eq_true rfl)
  refine own_st (fun u_ k_ => st111 u_ k_) ?_
  show own_Go p e below _ (T111.setTop (mkF m 32 #[.val (.ref a), .val (.int (0 : Int32)), .val (.ref b), .val (.int (0 : Int32)), .val (.int (1 : Int32)), .val (.int (0 : Int32)), .val (.int v0)] []))
  refine own_st (fun u_ k_ => XS.iinc X111.here hx rfl (hb hby own_d_jdk_52_21_32) rfl (l' := #[.val (.ref a), .val (.int (1 : Int32)), .val (.ref b), .val (.int (0 : Int32)), .val (.int (1 : Int32)), .val (.int (0 : Int32)), .val (.int v0)]) rfl k_) ?_
  show own_Go p e below _ (T111.setTop (mkF m 35 #[.val (.ref a), .val (.int (1 : Int32)), .val (.ref b), .val (.int (0 : Int32)), .val (.int (1 : Int32)), .val (.int (0 : Int32)), .val (.int v0)] []))
  refine own_st (fun u_ k_ => XS.iinc X111.here hx rfl (hb hby own_d_jdk_52_21_35) rfl (l' := #[.val (.ref a), .val (.int (1 : Int32)), .val (.ref b), .val (.int (1 : Int32)), .val (.int (1 : Int32)), .val (.int (0 : Int32)), .val (.int v0)]) rfl k_) ?_
  show own_Go p e below _ (T111.setTop (mkF m 38 #[.val (.ref a), .val (.int (1 : Int32)), .val (.ref b), .val (.int (1 : Int32)), .val (.int (1 : Int32)), .val (.int (0 : Int32)), .val (.int v0)] []))
  refine own_st (fun u_ k_ => XS.iinc X111.here hx rfl (hb hby own_d_jdk_52_21_38) rfl (l' := #[.val (.ref a), .val (.int (1 : Int32)), .val (.ref b), .val (.int (1 : Int32)), .val (.int (1 : Int32)), .val (.int (1 : Int32)), .val (.int v0)]) rfl k_) ?_
  show own_Go p e below _ (T111.setTop (mkF m 41 #[.val (.ref a), .val (.int (1 : Int32)), .val (.ref b), .val (.int (1 : Int32)), .val (.int (1 : Int32)), .val (.int (1 : Int32)), .val (.int v0)] []))
  refine own_st (fun u_ k_ => XS.goto X111.here hx rfl (pc0 := 41) (pc' := 3) rfl (hb hby own_d_jdk_52_21_41) (by decide) (by decide) k_) ?_
  show own_Go p e below _ (T111.setTop (mkF m 3 #[.val (.ref a), .val (.int (1 : Int32)), .val (.ref b), .val (.int (1 : Int32)), .val (.int (1 : Int32)), .val (.int (1 : Int32)), .val (.int v0)] []))
  refine own_st (fun u_ k_ => XS.iload X111.here hx rfl (hb hby own_d_jdk_52_21_3) rfl k_) ?_
  show own_Go p e below _ (T111.setTop (mkF m 5 #[.val (.ref a), .val (.int (1 : Int32)), .val (.ref b), .val (.int (1 : Int32)), .val (.int (1 : Int32)), .val (.int (1 : Int32)), .val (.int v0)] [(.int (1 : Int32))]))
  refine own_st (fun u_ k_ => XS.iload X111.here hx rfl (hb hby own_d_jdk_52_21_5) rfl k_) ?_
  show own_Go p e below _ (T111.setTop (mkF m 7 #[.val (.ref a), .val (.int (1 : Int32)), .val (.ref b), .val (.int (1 : Int32)), .val (.int (1 : Int32)), .val (.int (1 : Int32)), .val (.int v0)] [(.int (1 : Int32)), (.int (1 : Int32))]))
  refine own_st (fun u_ k_ => XS.icmpYes X111.here hx rfl (pc0 := 7) (pc' := 44) rfl (hb hby own_d_jdk_52_21_7) rfl (XT.ii_ge_t (by decide)) (by decide) (by decide) k_) ?_
  show own_Go p e below _ (T111.setTop (mkF m 44 #[.val (.ref a), .val (.int (1 : Int32)), .val (.ref b), .val (.int (1 : Int32)), .val (.int (1 : Int32)), .val (.int (1 : Int32)), .val (.int v0)] []))
  refine own_st (fun u_ k_ => XS.iload X111.here hx rfl (hb hby own_d_jdk_52_21_44) rfl k_) ?_
  show own_Go p e below _ (T111.setTop (mkF m 46 #[.val (.ref a), .val (.int (1 : Int32)), .val (.ref b), .val (.int (1 : Int32)), .val (.int (1 : Int32)), .val (.int (1 : Int32)), .val (.int v0)] [(.int (1 : Int32))]))
  have K112 : Keep h0 h111 [b] := (Keep.refl h0 [b]).wr W111 (Or.inl (List.mem_of_getElem? (i := 0) rfl))
  have F113 := (Exa.wr W111 Eb)
  exact own_retX X111 hx hlk hret rfl (Or.inl ⟨rfl, by simp, _, rfl⟩) (hb hby own_d_jdk_52_21_46) (by decide) (by decide) (show QrmCp1_1 Z wcs a ka b kb v0 h0 n0 (some (.int (1 : Int32))) T111.heap _ from (by rw [e111]; exact ⟨rfl, N111, K112, F113, V111⟩))
theorem own_d_jdk_52_16_57 : decode jdk_52_method_16_code 57 = .ok (.aload_n 3, 1) := by decide +kernel
theorem own_d_jdk_52_16_58 : decode jdk_52_method_16_code 58 = .ok (.areturn, 1) := by decide +kernel
theorem own_ef_rmCq1_1 (m : MethodId) (a : Addr)  : entryFrame m #[(.ref a), (.int (0 : Int32)), (.int (1 : Int32))] 6 = mkF m 0 #[.val (.ref a), .val (.int (0 : Int32)), .val (.int (1 : Int32)), .unset, .unset, .unset] [] := by first | (simp [entryFrame, mkF, argsToLocals, Value.category, maxLocals]; done) | rfl
def QrmCq1_1 (Z : State) (wcs : Int32) (a : Addr) (ka : ClassId) (v0 : Int32) (h0 : Heap) (n0 : Nat) (v : Option Value) (h : Heap) (L : List Loc) : Prop := ∃ r : Addr, ∃ kr : ClassId, v = some (.ref r) ∧ Fr n0 L ∧ Keep h0 h [] ∧ h0.size ≤ r ∧ Exa Z h r "[B" ∧ Arv Z h r kr .byte (1 : Int32) [(.int (v0.toInt8.toInt32))] (.int (0 : Int32))
set_option maxRecDepth 65536 in
set_option maxHeartbeats 40000000 in
theorem rmCq1_1 (l : Launch) (Z : State) (a0 : Array Value) (hw : own_H a0 Z) (ws : List Jvm.Cond) (wcs : Int32) (hS : own_S Z wcs) (a : Addr) (ka : ClassId) (v0 : Int32) (h0 : Heap) (n0 : Nat) (O0 : Old Z n0 h0) (Ea : Exa Z h0 a "[C") (A1 : Arv Z h0 a ka .char (1 : Int32) [(.int v0)] (.int (0 : Int32))) (q0 : ¬ (255 : Int32) < v0) :
    own_Met l own_y_134 jdk_52_method_16_code 6 (some (.array .byte)) ws ({ frames := 1, cells := 1, slots := 1, locals := 18 } : Room) Z h0 #[(.ref a), (.int (0 : Int32)), (.int (1 : Int32))] (QrmCq1_1 Z wcs a ka v0 h0 n0) := by
  refine own_body (plainFor_of_name own_pn_15) ?_
  intro p e s m below meth c s₁ hx hby hml hown hnm hret hlk hZ e0 X0
  have N0 := Fr.nil n0
  refine own_st (fun u_ k_ => castTop (own_ef_rmCq1_1 m a) k_) ?_
  show own_Go p e below _ (s₁.setTop (mkF m 0 #[.val (.ref a), .val (.int (0 : Int32)), .val (.int (1 : Int32)), .unset, .unset, .unset] []))
  refine own_st (fun u_ k_ => XS.iloadN X0.here hx rfl (hb hby own_d_jdk_52_16_0) rfl k_) ?_
  show own_Go p e below _ (s₁.setTop (mkF m 1 #[.val (.ref a), .val (.int (0 : Int32)), .val (.int (1 : Int32)), .unset, .unset, .unset] [(.int (1 : Int32))]))
  obtain ⟨T114, h114, k114, X114, e114, E114, A114, Y114, st114⟩ := newPE X0 hx hZ (own_w hw 20 rfl) e0 (g := (mkF m 1 #[.val (.ref a), .val (.int (0 : Int32)), .val (.int (1 : Int32)), .unset, .unset, .unset] [(.int (1 : Int32))])) rfl (hb hby own_d_jdk_52_16_1) rfl (by decide) (cap := 1) (by decide) (by decide) (by decide) (by decide) (ad := "[B") own_lm_31
  obtain ⟨b114, g114⟩ : ∃ z, z = h0.size := ⟨_, rfl⟩
  rw [← g114] at A114 Y114 st114
  have V114 : Arv Z h114 b114 k114 .byte (1 : Int32) [(.int (0 : Int32))] (.int (0 : Int32)) := (Arv.new A114 (by decide)).pad (pad_rep [] (.int (0 : Int32)) 1)
  refine own_st (fun u_ k_ => st114 u_ k_) ?_
  show own_Go p e below _ (T114.setTop (mkF m 3 #[.val (.ref a), .val (.int (0 : Int32)), .val (.int (1 : Int32)), .unset, .unset, .unset] [(.ref b114)]))
  refine own_st (fun u_ k_ => XS.astoreN X114.here hx rfl (hb hby own_d_jdk_52_16_3) rfl rfl (l' := #[.val (.ref a), .val (.int (0 : Int32)), .val (.int (1 : Int32)), .val (.ref b114), .unset, .unset]) rfl k_) ?_
  show own_Go p e below _ (T114.setTop (mkF m 4 #[.val (.ref a), .val (.int (0 : Int32)), .val (.int (1 : Int32)), .val (.ref b114), .unset, .unset] []))
  refine own_st (fun u_ k_ => XS.aloadN X114.here hx rfl (hb hby own_d_jdk_52_16_4) rfl rfl k_) ?_
  show own_Go p e below _ (T114.setTop (mkF m 5 #[.val (.ref a), .val (.int (0 : Int32)), .val (.int (1 : Int32)), .val (.ref b114), .unset, .unset] [(.ref a)]))
  refine own_st (fun u_ k_ => XS.iloadN X114.here hx rfl (hb hby own_d_jdk_52_16_5) rfl k_) ?_
  show own_Go p e below _ (T114.setTop (mkF m 6 #[.val (.ref a), .val (.int (0 : Int32)), .val (.int (1 : Int32)), .val (.ref b114), .unset, .unset] [(.int (0 : Int32)), (.ref a)]))
  refine own_st (fun u_ k_ => XS.aloadN X114.here hx rfl (hb hby own_d_jdk_52_16_6) rfl rfl k_) ?_
  show own_Go p e below _ (T114.setTop (mkF m 7 #[.val (.ref a), .val (.int (0 : Int32)), .val (.int (1 : Int32)), .val (.ref b114), .unset, .unset] [(.ref b114), (.int (0 : Int32)), (.ref a)]))
  refine own_st (fun u_ k_ => XS.iconst X114.here hx rfl (hb hby own_d_jdk_52_16_7) k_) ?_
  show own_Go p e below _ (T114.setTop (mkF m 8 #[.val (.ref a), .val (.int (0 : Int32)), .val (.int (1 : Int32)), .val (.ref b114), .unset, .unset] [(.int (0 : Int32)), (.ref b114), (.int (0 : Int32)), (.ref a)]))
  refine own_st (fun u_ k_ => XS.iloadN X114.here hx rfl (hb hby own_d_jdk_52_16_8) rfl k_) ?_
  show own_Go p e below _ (T114.setTop (mkF m 9 #[.val (.ref a), .val (.int (0 : Int32)), .val (.int (1 : Int32)), .val (.ref b114), .unset, .unset] [(.int (1 : Int32)), (.int (0 : Int32)), (.ref b114), (.int (0 : Int32)), (.ref a)]))
  have F115 := (Exa.ext E114 Ea)
  have g116 : n0 ≤ b114 := Nat.le_trans (own_nl O0) (Nat.le_of_eq g114.symm)
  have F117 := (A1.ext E114)
  have O119 : Old Z n0 h114 := O0.ext E114
  obtain ⟨T118, v118, L118, X118, hQ118, st118⟩ := own_callS X114 hx hZ (y := own_y_14) hown (own_w hw 21 rfl) (own_w hw 22 rfl) (own_w hw 18 rfl) (own_w hw 23 rfl) own_lm_28 (rmCp1_1 l Z a0 hw [] wcs hS a ka b114 k114 v0 h114 n0 O119 F115 Y114 g116 F117 V114 (by assumption)) e114 own_pd_115 (argsL := [(.ref a), (.int (0 : Int32)), (.ref b114), (.int (0 : Int32)), (.int (1 : Int32))]) (rest := []) rfl rfl (g := (mkF m 9 #[.val (.ref a), .val (.int (0 : Int32)), .val (.int (1 : Int32)), .val (.ref b114), .unset, .unset] [(.int (1 : Int32)), (.int (0 : Int32)), (.ref b114), (.int (0 : Int32)), (.ref a)])) rfl (by rw [hml]; rfl) rfl (hb hby own_d_jdk_52_16_9) (W := 0) rfl (by decide) (by decide) (by decide) (by decide)
  obtain ⟨rfl, M118, K118, F120, F121⟩ := hQ118
  have N118 := Fr.app N0 M118
  refine own_st (fun u_ k_ => st118 u_ k_) ?_
  show own_Go p e below _ (T118.setTop (mkF m 12 #[.val (.ref a), .val (.int (0 : Int32)), .val (.int (1 : Int32)), .val (.ref b114), .unset, .unset] [(.int (1 : Int32))]))
  refine own_st (fun u_ k_ => XS.istore X118.here hx rfl (hb hby own_d_jdk_52_16_12) rfl (l' := #[.val (.ref a), .val (.int (0 : Int32)), .val (.int (1 : Int32)), .val (.ref b114), .val (.int (1 : Int32)), .unset]) rfl k_) ?_
  show own_Go p e below _ (T118.setTop (mkF m 14 #[.val (.ref a), .val (.int (0 : Int32)), .val (.int (1 : Int32)), .val (.ref b114), .val (.int (1 : Int32)), .unset] []))
  refine own_st (fun u_ k_ => XS.iload X118.here hx rfl (hb hby own_d_jdk_52_16_14) rfl k_) ?_
  show own_Go p e below _ (T118.setTop (mkF m 16 #[.val (.ref a), .val (.int (0 : Int32)), .val (.int (1 : Int32)), .val (.ref b114), .val (.int (1 : Int32)), .unset] [(.int (1 : Int32))]))
  refine own_st (fun u_ k_ => XS.iloadN X118.here hx rfl (hb hby own_d_jdk_52_16_16) rfl k_) ?_
  show own_Go p e below _ (T118.setTop (mkF m 17 #[.val (.ref a), .val (.int (0 : Int32)), .val (.int (1 : Int32)), .val (.ref b114), .val (.int (1 : Int32)), .unset] [(.int (1 : Int32)), (.int (1 : Int32))]))
  refine own_st (fun u_ k_ => XS.icmpYes X118.here hx rfl (pc0 := 17) (pc' := 57) rfl (hb hby own_d_jdk_52_16_17) rfl (XT.ii_eq_t (by decide)) (by decide) (by decide) k_) ?_
  show own_Go p e below _ (T118.setTop (mkF m 57 #[.val (.ref a), .val (.int (0 : Int32)), .val (.int (1 : Int32)), .val (.ref b114), .val (.int (1 : Int32)), .unset] []))
  refine own_st (fun u_ k_ => XS.aloadN X118.here hx rfl (hb hby own_d_jdk_52_16_57) rfl rfl k_) ?_
  show own_Go p e below _ (T118.setTop (mkF m 58 #[.val (.ref a), .val (.int (0 : Int32)), .val (.int (1 : Int32)), .val (.ref b114), .val (.int (1 : Int32)), .unset] [(.ref b114)]))
  have K122 : Keep h0 h114 [] := (Keep.refl h0 []).ext E114
  have z124 : h0.size ≤ b114 := Nat.le_trans (Nat.le_refl _) (Nat.le_of_eq g114.symm)
  have K123 : Keep h0 T118.heap [] := K122.trans K118 (allS (Or.inr z124) all0)
  exact own_retX X118 hx hlk hret rfl (Or.inr (Or.inr (Or.inr (Or.inr ⟨rfl, rfl, rfl⟩)))) (hb hby own_d_jdk_52_16_58) (by decide) (by decide) (show QrmCq1_1 Z wcs a ka v0 h0 n0 (some (.ref b114)) T118.heap _ from (by exact ⟨b114, k114, rfl, N118, K123, z124, F120, F121⟩))
theorem own_ef_rmCo1_1 (m : MethodId) (b : Addr)  : entryFrame m #[(.ref b), (.int (1 : Int32))] 2 = mkF m 0 #[.val (.ref b), .val (.int (1 : Int32))] [] := by first | (simp [entryFrame, mkF, argsToLocals, Value.category, maxLocals]; done) | rfl
def QrmCo1_1 (Z : State) (wcs : Int32) (b : Addr) (kb : ClassId) (vs : List Value) (h0 : Heap) (n0 : Nat) (v : Option Value) (h : Heap) (L : List Loc) : Prop := v = some (.int (0 : Int32)) ∧ Fr n0 L ∧ h = h0
set_option maxRecDepth 65536 in
set_option maxHeartbeats 40000000 in
theorem rmCo1_1 (l : Launch) (Z : State) (a0 : Array Value) (hw : own_H a0 Z) (ws : List Jvm.Cond) (wcs : Int32) (hS : own_S Z wcs) (b : Addr) (kb : ClassId) (vs : List Value) (h0 : Heap) (n0 : Nat) (O0 : Old Z n0 h0) (A2 : Arv Z h0 b kb .byte (1 : Int32) vs (.int (0 : Int32))) :
    own_Met l own_y_143 jdk_52_method_15_code 2 (some .byte) ws ({ frames := 0, cells := 0, slots := 0, locals := 0 } : Room) Z h0 #[(.ref b), (.int (1 : Int32))] (QrmCo1_1 Z wcs b kb vs h0 n0) := by
  refine own_body (plainFor_of_name own_pn_15) ?_
  intro p e s m below meth c s₁ hx hby hml hown hnm hret hlk hZ e0 X0
  have N0 := Fr.nil n0
  refine own_st (fun u_ k_ => castTop (own_ef_rmCo1_1 m b) k_) ?_
  show own_Go p e below _ (s₁.setTop (mkF m 0 #[.val (.ref b), .val (.int (1 : Int32))] []))
  refine own_st (fun u_ k_ => XS.iloadN X0.here hx rfl (hb hby own_d_jdk_52_15_0) rfl k_) ?_
  show own_Go p e below _ (s₁.setTop (mkF m 1 #[.val (.ref b), .val (.int (1 : Int32))] [(.int (1 : Int32))]))
  refine own_st (fun u_ k_ => XS.aloadN X0.here hx rfl (hb hby own_d_jdk_52_15_1) rfl rfl k_) ?_
  show own_Go p e below _ (s₁.setTop (mkF m 2 #[.val (.ref b), .val (.int (1 : Int32))] [(.ref b), (.int (1 : Int32))]))
  obtain ⟨cl125, Ar125, -, S125, N125, -, -⟩ := id A2
  refine own_st (X0.arraylength hx (by rw [e0]; exact Ar125.1) (State.isArrayOf_alike hZ.alike Ar125.2.1) (g := (mkF m 2 #[.val (.ref b), .val (.int (1 : Int32))] [(.ref b), (.int (1 : Int32))])) rfl rfl (hb hby own_d_jdk_52_15_2)) ?_
  rw [len_of S125 N125]
  show own_Go p e below _ (s₁.setTop (mkF m 3 #[.val (.ref b), .val (.int (1 : Int32))] [(.int (1 : Int32)), (.int (1 : Int32))]))
  refine own_st (fun u_ k_ => XS.isub X0.here hx rfl (hb hby own_d_jdk_52_15_3) rfl k_) ?_
  show own_Go p e below _ (s₁.setTop (mkF m 4 #[.val (.ref b), .val (.int (1 : Int32))] [(.int (0 : Int32))]))
  refine own_st (fun u_ k_ => XS.bipush X0.here hx rfl (hb hby own_d_jdk_52_15_4) k_) ?_
  show own_Go p e below _ (s₁.setTop (mkF m 6 #[.val (.ref b), .val (.int (1 : Int32))] [(.int (31 : Int32)), (.int (0 : Int32))]))
  refine own_st (fun u_ k_ => XS.iushr X0.here hx rfl (hb hby own_d_jdk_52_15_6) rfl k_) ?_
  show own_Go p e below _ (s₁.setTop (mkF m 7 #[.val (.ref b), .val (.int (1 : Int32))] [(.int (0 : Int32))]))
  refine own_st (fun u_ k_ => XS.i2b X0.here hx rfl (hb hby own_d_jdk_52_15_7) rfl k_) ?_
  show own_Go p e below _ (s₁.setTop (mkF m 8 #[.val (.ref b), .val (.int (1 : Int32))] [(.int (0 : Int32))]))
  exact own_retX X0 hx hlk hret rfl (Or.inl ⟨rfl, by simp, _, rfl⟩) (hb hby own_d_jdk_52_15_8) (by decide) (by decide) (show QrmCo1_1 Z wcs b kb vs h0 n0 (some (.int (0 : Int32))) s₁.heap _ from (by rw [e0]; exact ⟨rfl, N0, rfl⟩))
theorem own_ef_rmS4_1_1 (m : MethodId) (a : Addr) (b : Addr)  : entryFrame m #[(.ref a), (.ref b), (.int (0 : Int32)), (.int (1 : Int32)), .null] 6 = mkF m 0 #[.val (.ref a), .val (.ref b), .val (.int (0 : Int32)), .val (.int (1 : Int32)), .val .null, .unset] [] := by first | (simp [entryFrame, mkF, argsToLocals, Value.category, maxLocals]; done) | rfl
def QrmS4_1_1 (Z : State) (wcs : Int32) (a : Addr) (b : Addr) (kb : ClassId) (v0 : Int32) (h0 : Heap) (n0 : Nat) (v : Option Value) (h : Heap) (L : List Loc) : Prop := ∃ r : Addr, ∃ kr : ClassId, v = none ∧ Fr n0 L ∧ Keep h0 h [a] ∧ h0.size ≤ r ∧ Exa Z h a "java/lang/String" ∧ Fld Z h a "java/lang/String" "value" "[B" (.ref r) ∧ Fld Z h a "java/lang/String" "coder" "B" (.int (0 : Int32)) ∧ Exa Z h r "[B" ∧ Arv Z h r kr .byte (1 : Int32) [(.int (v0.toInt8.toInt32))] (.int (0 : Int32))
set_option maxRecDepth 65536 in
set_option maxHeartbeats 40000000 in
theorem rmS4_1_1 (l : Launch) (Z : State) (a0 : Array Value) (hw : own_H a0 Z) (ws : List Jvm.Cond) (wcs : Int32) (hS : own_S Z wcs) (a : Addr) (b : Addr) (kb : ClassId) (v0 : Int32) (h0 : Heap) (n0 : Nat) (O0 : Old Z n0 h0) (E : Exa Z h0 a "java/lang/String") (Ea : Exa Z h0 b "[C") (ga : n0 ≤ a) (F1 : Fld Z h0 a "java/lang/String" "value" "[B" .null) (F2 : Fld Z h0 a "java/lang/String" "coder" "B" (.int (0 : Int32))) (A1 : Arv Z h0 b kb .char (1 : Int32) [(.int v0)] (.int (0 : Int32))) (q0 : ¬ (255 : Int32) < v0) :
    own_Met l own_y_172 jdk_42_method_149_code 6 none ws ({ frames := 2, cells := 1, slots := 1, locals := 35 } : Room) Z h0 #[(.ref a), (.ref b), (.int (0 : Int32)), (.int (1 : Int32)), .null] (QrmS4_1_1 Z wcs a b kb v0 h0 n0) := by
  refine own_body (plainFor_of_name own_pn_173) ?_
  intro p e s m below meth c s₁ hx hby hml hown hnm hret hlk hZ e0 X0
  have N0 := Fr.nil n0
  refine own_st (fun u_ k_ => castTop (own_ef_rmS4_1_1 m a b) k_) ?_
  show own_Go p e below _ (s₁.setTop (mkF m 0 #[.val (.ref a), .val (.ref b), .val (.int (0 : Int32)), .val (.int (1 : Int32)), .val .null, .unset] []))
  refine own_st (fun u_ k_ => XS.aloadN X0.here hx rfl (hb hby own_d_jdk_42_149_0) rfl rfl k_) ?_
  show own_Go p e below _ (s₁.setTop (mkF m 1 #[.val (.ref a), .val (.ref b), .val (.int (0 : Int32)), .val (.int (1 : Int32)), .val .null, .unset] [(.ref a)]))
  obtain ⟨T126, X126, e126, st126⟩ := initO X0 hx hZ hown (own_w hw 12 rfl) (own_w hw 13 rfl) (own_w hw 14 rfl) e0 (g := (mkF m 1 #[.val (.ref a), .val (.ref b), .val (.int (0 : Int32)), .val (.int (1 : Int32)), .val .null, .unset] [(.ref a)])) rfl (by rw [hml]; rfl) rfl (hb hby own_d_jdk_42_149_1) (by decide) (W := 0) (by show 2 * 0 + _ ≤ _; exact Nat.le_of_eq rfl) (by decide)
  refine own_st (fun u_ k_ => st126 u_ k_) ?_
  show own_Go p e below _ (T126.setTop (mkF m 4 #[.val (.ref a), .val (.ref b), .val (.int (0 : Int32)), .val (.int (1 : Int32)), .val .null, .unset] []))
  refine own_st (fun u_ k_ => XS.iloadN X126.here hx rfl (hb hby own_d_jdk_42_149_4) rfl k_) ?_
  show own_Go p e below _ (T126.setTop (mkF m 5 #[.val (.ref a), .val (.ref b), .val (.int (0 : Int32)), .val (.int (1 : Int32)), .val .null, .unset] [(.int (1 : Int32))]))
  refine own_st (fun u_ k_ => XS.ifYes X126.here hx rfl (pc0 := 5) (pc' := 27) rfl (hb hby own_d_jdk_42_149_5) rfl (XT.i0_ne_t (by decide)) (by decide) (by decide) k_) ?_
  show own_Go p e below _ (T126.setTop (mkF m 27 #[.val (.ref a), .val (.ref b), .val (.int (0 : Int32)), .val (.int (1 : Int32)), .val .null, .unset] []))
  have F127 := Sta.ext O0.2 hS.1
  obtain ⟨T128, X128, e128, st128⟩ := getS2 X126 hx hZ hown (host := "") (Or.inl (own_w hw 15 rfl)) Via.refl e126 F127 (g := (mkF m 27 #[.val (.ref a), .val (.ref b), .val (.int (0 : Int32)), .val (.int (1 : Int32)), .val .null, .unset] [])) rfl (hb hby own_d_jdk_42_149_27)
  refine own_st (fun u_ k_ => st128 u_ k_) ?_
  show own_Go p e below _ (T128.setTop (mkF m 30 #[.val (.ref a), .val (.ref b), .val (.int (0 : Int32)), .val (.int (1 : Int32)), .val .null, .unset] [(.int wcs)]))
  refine own_st (fun u_ k_ => XS.ifNo X128.here hx rfl (hb hby own_d_jdk_42_149_30) rfl (XT.i0_eq_f hS.2.1) k_) ?_
  show own_Go p e below _ (T128.setTop (mkF m 33 #[.val (.ref a), .val (.ref b), .val (.int (0 : Int32)), .val (.int (1 : Int32)), .val .null, .unset] []))
  refine own_st (fun u_ k_ => XS.aloadN X128.here hx rfl (hb hby own_d_jdk_42_149_33) rfl rfl k_) ?_
  show own_Go p e below _ (T128.setTop (mkF m 34 #[.val (.ref a), .val (.ref b), .val (.int (0 : Int32)), .val (.int (1 : Int32)), .val .null, .unset] [(.ref b)]))
  refine own_st (fun u_ k_ => XS.iloadN X128.here hx rfl (hb hby own_d_jdk_42_149_34) rfl k_) ?_
  show own_Go p e below _ (T128.setTop (mkF m 35 #[.val (.ref a), .val (.ref b), .val (.int (0 : Int32)), .val (.int (1 : Int32)), .val .null, .unset] [(.int (0 : Int32)), (.ref b)]))
  refine own_st (fun u_ k_ => XS.iloadN X128.here hx rfl (hb hby own_d_jdk_42_149_35) rfl k_) ?_
  show own_Go p e below _ (T128.setTop (mkF m 36 #[.val (.ref a), .val (.ref b), .val (.int (0 : Int32)), .val (.int (1 : Int32)), .val .null, .unset] [(.int (1 : Int32)), (.int (0 : Int32)), (.ref b)]))
  obtain ⟨T129, v129, L129, X129, hQ129, st129⟩ := own_callS X128 hx hZ (y := own_y_134) hown (own_w hw 16 rfl) (own_w hw 17 rfl) (own_w hw 18 rfl) (own_w hw 19 rfl) own_lm_28 (rmCq1_1 l Z a0 hw [] wcs hS b kb v0 h0 n0 O0 Ea A1 (by assumption)) e128 own_pd_124 (argsL := [(.ref b), (.int (0 : Int32)), (.int (1 : Int32))]) (rest := []) rfl rfl (g := (mkF m 36 #[.val (.ref a), .val (.ref b), .val (.int (0 : Int32)), .val (.int (1 : Int32)), .val .null, .unset] [(.int (1 : Int32)), (.int (0 : Int32)), (.ref b)])) rfl (by rw [hml]; rfl) rfl (hb hby own_d_jdk_42_149_36) (W := 0) rfl (by decide) (by decide) (by decide) (by decide)
  obtain ⟨r_130, kr_131, rfl, M129, K129, z132, F133, F134⟩ := hQ129
  have N129 := Fr.app N0 M129
  refine own_st (fun u_ k_ => st129 u_ k_) ?_
  show own_Go p e below _ (T129.setTop (mkF m 39 #[.val (.ref a), .val (.ref b), .val (.int (0 : Int32)), .val (.int (1 : Int32)), .val .null, .unset] [(.ref r_130)]))
  refine own_st (fun u_ k_ => XS.astore X129.here hx rfl (hb hby own_d_jdk_42_149_39) rfl rfl (l' := #[.val (.ref a), .val (.ref b), .val (.int (0 : Int32)), .val (.int (1 : Int32)), .val .null, .val (.ref r_130)]) rfl k_) ?_
  show own_Go p e below _ (T129.setTop (mkF m 41 #[.val (.ref a), .val (.ref b), .val (.int (0 : Int32)), .val (.int (1 : Int32)), .val .null, .val (.ref r_130)] []))
  refine own_st (fun u_ k_ => XS.aloadN X129.here hx rfl (hb hby own_d_jdk_42_149_41) rfl rfl k_) ?_
  show own_Go p e below _ (T129.setTop (mkF m 42 #[.val (.ref a), .val (.ref b), .val (.int (0 : Int32)), .val (.int (1 : Int32)), .val .null, .val (.ref r_130)] [(.ref a)]))
  refine own_st (fun u_ k_ => XS.aload X129.here hx rfl (hb hby own_d_jdk_42_149_42) rfl rfl k_) ?_
  show own_Go p e below _ (T129.setTop (mkF m 44 #[.val (.ref a), .val (.ref b), .val (.int (0 : Int32)), .val (.int (1 : Int32)), .val .null, .val (.ref r_130)] [(.ref r_130), (.ref a)]))
  refine own_st (fun u_ k_ => XS.iloadN X129.here hx rfl (hb hby own_d_jdk_42_149_44) rfl k_) ?_
  show own_Go p e below _ (T129.setTop (mkF m 45 #[.val (.ref a), .val (.ref b), .val (.int (0 : Int32)), .val (.int (1 : Int32)), .val .null, .val (.ref r_130)] [(.int (1 : Int32)), (.ref r_130), (.ref a)]))
  have O136 : Old Z n0 T129.heap := O0.keep K129 all0
  obtain ⟨T135, v135, L135, X135, hQ135, st135⟩ := own_callS X129 hx hZ (y := own_y_143) hown (own_w hw 24 rfl) (own_w hw 25 rfl) (own_w hw 18 rfl) (own_w hw 26 rfl) own_lm_28 (rmCo1_1 l Z a0 hw [] wcs hS r_130 kr_131 [(.int (v0.toInt8.toInt32))] T129.heap n0 O136 F134) rfl own_pd_160 (argsL := [(.ref r_130), (.int (1 : Int32))]) (rest := [(.ref a)]) rfl rfl (g := (mkF m 45 #[.val (.ref a), .val (.ref b), .val (.int (0 : Int32)), .val (.int (1 : Int32)), .val .null, .val (.ref r_130)] [(.int (1 : Int32)), (.ref r_130), (.ref a)])) rfl (by rw [hml]; rfl) rfl (hb hby own_d_jdk_42_149_45) (W := 1) rfl (by decide) (by decide) (by decide) (by decide)
  obtain ⟨rfl, M135, e135⟩ := hQ135
  have N135 := Fr.app N129 M135
  refine own_st (fun u_ k_ => st135 u_ k_) ?_
  show own_Go p e below _ (T135.setTop (mkF m 48 #[.val (.ref a), .val (.ref b), .val (.int (0 : Int32)), .val (.int (1 : Int32)), .val .null, .val (.ref r_130)] [(.int (0 : Int32)), (.ref a)]))
  have F137 := (E.keep K129)
  have F138 := (F2.keep K129 nin0)
  obtain ⟨T139, h139, X139, e139, W139, st139⟩ := putF X135 hx hZ hown (host := "") (Or.inl (own_w hw 27 rfl)) Via.refl e135 F138 F137 (Or.inr ⟨(own_w hw 28 rfl), rfl, hnm⟩) (own_w hw 3 rfl) (ty := .byte) own_lm_162 rfl rfl (g := (mkF m 48 #[.val (.ref a), .val (.ref b), .val (.int (0 : Int32)), .val (.int (1 : Int32)), .val .null, .val (.ref r_130)] [(.int (0 : Int32)), (.ref a)])) rfl rfl (hb hby own_d_jdk_42_149_48)
  have N139 := Fr.snoc X139 N135 ga
  have F140 : Fld Z h139 a "java/lang/String" "coder" "B" (.int (0 : Int32)) := Fld.same W139 F138
  refine own_st (fun u_ k_ => st139 u_ k_) ?_
  show own_Go p e below _ (T139.setTop (mkF m 51 #[.val (.ref a), .val (.ref b), .val (.int (0 : Int32)), .val (.int (1 : Int32)), .val .null, .val (.ref r_130)] []))
  refine own_st (fun u_ k_ => XS.aloadN X139.here hx rfl (hb hby own_d_jdk_42_149_51) rfl rfl k_) ?_
  show own_Go p e below _ (T139.setTop (mkF m 52 #[.val (.ref a), .val (.ref b), .val (.int (0 : Int32)), .val (.int (1 : Int32)), .val .null, .val (.ref r_130)] [(.ref a)]))
  refine own_st (fun u_ k_ => XS.aload X139.here hx rfl (hb hby own_d_jdk_42_149_52) rfl rfl k_) ?_
  show own_Go p e below _ (T139.setTop (mkF m 54 #[.val (.ref a), .val (.ref b), .val (.int (0 : Int32)), .val (.int (1 : Int32)), .val .null, .val (.ref r_130)] [(.ref r_130), (.ref a)]))
  have F141 := (Exa.wr W139 F137)
  have F142 := (Fld.other W139 (F1.keep K129 nin0) (Or.inr (own_sn_168 hw)))
  obtain ⟨T143, h143, X143, e143, W143, st143⟩ := putF X139 hx hZ hown (host := "") (Or.inl (own_w hw 29 rfl)) Via.refl e139 F142 F141 (Or.inr ⟨(own_w hw 30 rfl), rfl, hnm⟩) (own_w hw 3 rfl) (ty := (.array .byte)) own_lm_167 rfl rfl (g := (mkF m 54 #[.val (.ref a), .val (.ref b), .val (.int (0 : Int32)), .val (.int (1 : Int32)), .val .null, .val (.ref r_130)] [(.ref r_130), (.ref a)])) rfl rfl (hb hby own_d_jdk_42_149_54)
  have N143 := Fr.snoc X143 N139 ga
  have F144 : Fld Z h143 a "java/lang/String" "value" "[B" (.ref r_130) := Fld.same W143 F142
  refine own_st (fun u_ k_ => st143 u_ k_) ?_
  show own_Go p e below _ (T143.setTop (mkF m 57 #[.val (.ref a), .val (.ref b), .val (.int (0 : Int32)), .val (.int (1 : Int32)), .val .null, .val (.ref r_130)] []))
  have K145 : Keep h0 T129.heap [a] := (Keep.refl h0 [a]).trans K129 all0
  have K146 : Keep h0 h139 [a] := K145.wr W139 (Or.inl (List.mem_of_getElem? (i := 0) rfl))
  have K147 : Keep h0 h143 [a] := K146.wr W143 (Or.inl (List.mem_of_getElem? (i := 0) rfl))
  have z148 : h0.size ≤ r_130 := Nat.le_trans (Nat.le_refl _) z132
  have F149 := (Exa.wr W143 F141)
  have F150 := (Fld.other W143 F140 (Or.inr (own_sn_171 hw)))
  have F151 := (Exa.wr W143 (Exa.wr W139 F133))
  have ne152 : r_130 ≠ a := (Ne.symm (Nat.ne_of_lt (Nat.lt_of_lt_of_le E.lt z132)))
  have F153 := ((F134.other W139 ne152).other W143 ne152)
  exact own_retV X143 hx hlk hret (hb hby own_d_jdk_42_149_57) (by decide) (by decide) (show QrmS4_1_1 Z wcs a b kb v0 h0 n0 none T143.heap _ from (by rw [e143]; exact ⟨r_130, kr_131, rfl, N143, K147, z148, F149, F144, F150, F151, F153⟩))
abbrev own_y_198 : MethodName := ⟨"java/lang/String", "<init>", "([C)V"⟩
theorem own_ef_rmS1_1_0 (m : MethodId) (a : Addr) (b : Addr)  : entryFrame m #[(.ref a), (.ref b)] 2 = mkF m 0 #[.val (.ref a), .val (.ref b)] [] := by first | (simp [entryFrame, mkF, argsToLocals, Value.category, maxLocals]; done) | rfl
def QrmS1_1_0 (Z : State) (wcs : Int32) (a : Addr) (b : Addr) (kb : ClassId) (v0 : Int32) (h0 : Heap) (n0 : Nat) (v : Option Value) (h : Heap) (L : List Loc) : Prop := ∃ r : Addr, ∃ kr : ClassId, v = none ∧ Fr n0 L ∧ Keep h0 h [a] ∧ h0.size ≤ r ∧ Exa Z h a "java/lang/String" ∧ Fld Z h a "java/lang/String" "value" "[B" (.ref r) ∧ Fld Z h a "java/lang/String" "coder" "B" (.int (1 : Int32)) ∧ Exa Z h r "[B" ∧ Arv Z h r kr .byte (2 : Int32) [(.int ((v0 >>> ((0 : Int32) &&& 31)).toInt8.toInt32)), (.int ((v0 >>> ((8 : Int32) &&& 31)).toInt8.toInt32))] (.int (0 : Int32))
set_option maxRecDepth 65536 in
set_option maxHeartbeats 40000000 in
theorem rmS1_1_0 (l : Launch) (Z : State) (a0 : Array Value) (hw : own_H a0 Z) (ws : List Jvm.Cond) (wcs : Int32) (hS : own_S Z wcs) (a : Addr) (b : Addr) (kb : ClassId) (v0 : Int32) (h0 : Heap) (n0 : Nat) (O0 : Old Z n0 h0) (E : Exa Z h0 a "java/lang/String") (Ea : Exa Z h0 b "[C") (ga : n0 ≤ a) (F1 : Fld Z h0 a "java/lang/String" "value" "[B" .null) (F2 : Fld Z h0 a "java/lang/String" "coder" "B" (.int (0 : Int32))) (A1 : Arv Z h0 b kb .char (1 : Int32) [(.int v0)] (.int (0 : Int32))) (q0 : (255 : Int32) < v0) (w0 : own_C16 v0) :
    own_Met l own_y_198 jdk_42_method_3_code 2 none ws ({ frames := 5, cells := 2, slots := 3, locals := 74 } : Room) Z h0 #[(.ref a), (.ref b)] (QrmS1_1_0 Z wcs a b kb v0 h0 n0) := by
  refine own_body (plainFor_of_name own_pn_173) ?_
  intro p e s m below meth c s₁ hx hby hml hown hnm hret hlk hZ e0 X0
  have N0 := Fr.nil n0
  refine own_st (fun u_ k_ => castTop (own_ef_rmS1_1_0 m a b) k_) ?_
  show own_Go p e below _ (s₁.setTop (mkF m 0 #[.val (.ref a), .val (.ref b)] []))
  refine own_st (fun u_ k_ => XS.aloadN X0.here hx rfl (hb hby own_d_jdk_42_3_0) rfl rfl k_) ?_
  show own_Go p e below _ (s₁.setTop (mkF m 1 #[.val (.ref a), .val (.ref b)] [(.ref a)]))
  refine own_st (fun u_ k_ => XS.aloadN X0.here hx rfl (hb hby own_d_jdk_42_3_1) rfl rfl k_) ?_
  show own_Go p e below _ (s₁.setTop (mkF m 2 #[.val (.ref a), .val (.ref b)] [(.ref b), (.ref a)]))
  refine own_st (fun u_ k_ => XS.iconst X0.here hx rfl (hb hby own_d_jdk_42_3_2) k_) ?_
  show own_Go p e below _ (s₁.setTop (mkF m 3 #[.val (.ref a), .val (.ref b)] [(.int (0 : Int32)), (.ref b), (.ref a)]))
  refine own_st (fun u_ k_ => XS.aloadN X0.here hx rfl (hb hby own_d_jdk_42_3_3) rfl rfl k_) ?_
  show own_Go p e below _ (s₁.setTop (mkF m 4 #[.val (.ref a), .val (.ref b)] [(.ref b), (.int (0 : Int32)), (.ref b), (.ref a)]))
  obtain ⟨cl166, Ar166, -, S166, N166, -, -⟩ := id A1
  refine own_st (X0.arraylength hx (by rw [e0]; exact Ar166.1) (State.isArrayOf_alike hZ.alike Ar166.2.1) (g := (mkF m 4 #[.val (.ref a), .val (.ref b)] [(.ref b), (.int (0 : Int32)), (.ref b), (.ref a)])) rfl rfl (hb hby own_d_jdk_42_3_4)) ?_
  rw [len_of S166 N166]
  show own_Go p e below _ (s₁.setTop (mkF m 5 #[.val (.ref a), .val (.ref b)] [(.int (1 : Int32)), (.int (0 : Int32)), (.ref b), (.ref a)]))
  refine own_st (fun u_ k_ => XS.aconstNull X0.here hx rfl (hb hby own_d_jdk_42_3_5) k_) ?_
  show own_Go p e below _ (s₁.setTop (mkF m 6 #[.val (.ref a), .val (.ref b)] [.null, (.int (1 : Int32)), (.int (0 : Int32)), (.ref b), (.ref a)]))
  obtain ⟨T167, v167, L167, X167, hQ167, st167⟩ := own_callN X0 hx hZ (y := own_y_172) rfl hown (own_w hw 8 rfl) (own_w hw 9 rfl) (own_w hw 4 rfl) (own_w hw 11 rfl) own_lm_181 (rmS4_1_0 l Z a0 hw [] wcs hS a b kb v0 h0 n0 O0 E Ea ga F1 F2 A1 (by assumption) (by assumption)) e0 own_pd_182 (a := a) (argsL := [(.ref b), (.int (0 : Int32)), (.int (1 : Int32)), .null]) (rest := []) rfl rfl (g := (mkF m 6 #[.val (.ref a), .val (.ref b)] [.null, (.int (1 : Int32)), (.int (0 : Int32)), (.ref b), (.ref a)])) rfl (by rw [hml]; rfl) rfl (hb hby own_d_jdk_42_3_6) (W := 0) rfl (by decide) (by decide) (by decide) (by decide)
  obtain ⟨r_168, kr_169, rfl, M167, K167, z170, F171, F172, F173, F174, F175⟩ := hQ167
  have N167 := Fr.app N0 M167
  refine own_st (fun u_ k_ => st167 u_ k_) ?_
  show own_Go p e below _ (T167.setTop (mkF m 9 #[.val (.ref a), .val (.ref b)] []))
  have K176 : Keep h0 T167.heap [a] := (Keep.refl h0 [a]).trans K167 (allS (Or.inl (List.mem_of_getElem? (i := 0) rfl)) all0)
  have z177 : h0.size ≤ r_168 := Nat.le_trans (Nat.le_refl _) z170
  exact own_retV X167 hx hlk hret (hb hby own_d_jdk_42_3_9) (by decide) (by decide) (show QrmS1_1_0 Z wcs a b kb v0 h0 n0 none T167.heap _ from (by exact ⟨r_168, kr_169, rfl, N167, K176, z177, F171, F172, F173, F174, F175⟩))
theorem own_ef_rmS1_1_1 (m : MethodId) (a : Addr) (b : Addr)  : entryFrame m #[(.ref a), (.ref b)] 2 = mkF m 0 #[.val (.ref a), .val (.ref b)] [] := by first | (simp [entryFrame, mkF, argsToLocals, Value.category, maxLocals]; done) | rfl
def QrmS1_1_1 (Z : State) (wcs : Int32) (a : Addr) (b : Addr) (kb : ClassId) (v0 : Int32) (h0 : Heap) (n0 : Nat) (v : Option Value) (h : Heap) (L : List Loc) : Prop := ∃ r : Addr, ∃ kr : ClassId, v = none ∧ Fr n0 L ∧ Keep h0 h [a] ∧ h0.size ≤ r ∧ Exa Z h a "java/lang/String" ∧ Fld Z h a "java/lang/String" "value" "[B" (.ref r) ∧ Fld Z h a "java/lang/String" "coder" "B" (.int (0 : Int32)) ∧ Exa Z h r "[B" ∧ Arv Z h r kr .byte (1 : Int32) [(.int (v0.toInt8.toInt32))] (.int (0 : Int32))
set_option maxRecDepth 65536 in
set_option maxHeartbeats 40000000 in
theorem rmS1_1_1 (l : Launch) (Z : State) (a0 : Array Value) (hw : own_H a0 Z) (ws : List Jvm.Cond) (wcs : Int32) (hS : own_S Z wcs) (a : Addr) (b : Addr) (kb : ClassId) (v0 : Int32) (h0 : Heap) (n0 : Nat) (O0 : Old Z n0 h0) (E : Exa Z h0 a "java/lang/String") (Ea : Exa Z h0 b "[C") (ga : n0 ≤ a) (F1 : Fld Z h0 a "java/lang/String" "value" "[B" .null) (F2 : Fld Z h0 a "java/lang/String" "coder" "B" (.int (0 : Int32))) (A1 : Arv Z h0 b kb .char (1 : Int32) [(.int v0)] (.int (0 : Int32))) (q0 : ¬ (255 : Int32) < v0) :
    own_Met l own_y_198 jdk_42_method_3_code 2 none ws ({ frames := 5, cells := 2, slots := 3, locals := 74 } : Room) Z h0 #[(.ref a), (.ref b)] (QrmS1_1_1 Z wcs a b kb v0 h0 n0) := by
  refine own_body (plainFor_of_name own_pn_173) ?_
  intro p e s m below meth c s₁ hx hby hml hown hnm hret hlk hZ e0 X0
  have N0 := Fr.nil n0
  refine own_st (fun u_ k_ => castTop (own_ef_rmS1_1_1 m a b) k_) ?_
  show own_Go p e below _ (s₁.setTop (mkF m 0 #[.val (.ref a), .val (.ref b)] []))
  refine own_st (fun u_ k_ => XS.aloadN X0.here hx rfl (hb hby own_d_jdk_42_3_0) rfl rfl k_) ?_
  show own_Go p e below _ (s₁.setTop (mkF m 1 #[.val (.ref a), .val (.ref b)] [(.ref a)]))
  refine own_st (fun u_ k_ => XS.aloadN X0.here hx rfl (hb hby own_d_jdk_42_3_1) rfl rfl k_) ?_
  show own_Go p e below _ (s₁.setTop (mkF m 2 #[.val (.ref a), .val (.ref b)] [(.ref b), (.ref a)]))
  refine own_st (fun u_ k_ => XS.iconst X0.here hx rfl (hb hby own_d_jdk_42_3_2) k_) ?_
  show own_Go p e below _ (s₁.setTop (mkF m 3 #[.val (.ref a), .val (.ref b)] [(.int (0 : Int32)), (.ref b), (.ref a)]))
  refine own_st (fun u_ k_ => XS.aloadN X0.here hx rfl (hb hby own_d_jdk_42_3_3) rfl rfl k_) ?_
  show own_Go p e below _ (s₁.setTop (mkF m 4 #[.val (.ref a), .val (.ref b)] [(.ref b), (.int (0 : Int32)), (.ref b), (.ref a)]))
  obtain ⟨cl178, Ar178, -, S178, N178, -, -⟩ := id A1
  refine own_st (X0.arraylength hx (by rw [e0]; exact Ar178.1) (State.isArrayOf_alike hZ.alike Ar178.2.1) (g := (mkF m 4 #[.val (.ref a), .val (.ref b)] [(.ref b), (.int (0 : Int32)), (.ref b), (.ref a)])) rfl rfl (hb hby own_d_jdk_42_3_4)) ?_
  rw [len_of S178 N178]
  show own_Go p e below _ (s₁.setTop (mkF m 5 #[.val (.ref a), .val (.ref b)] [(.int (1 : Int32)), (.int (0 : Int32)), (.ref b), (.ref a)]))
  refine own_st (fun u_ k_ => XS.aconstNull X0.here hx rfl (hb hby own_d_jdk_42_3_5) k_) ?_
  show own_Go p e below _ (s₁.setTop (mkF m 6 #[.val (.ref a), .val (.ref b)] [.null, (.int (1 : Int32)), (.int (0 : Int32)), (.ref b), (.ref a)]))
  obtain ⟨T179, v179, L179, X179, hQ179, st179⟩ := own_callN X0 hx hZ (y := own_y_172) rfl hown (own_w hw 8 rfl) (own_w hw 9 rfl) (own_w hw 4 rfl) (own_w hw 11 rfl) own_lm_181 (rmS4_1_1 l Z a0 hw [] wcs hS a b kb v0 h0 n0 O0 E Ea ga F1 F2 A1 (by assumption)) e0 own_pd_182 (a := a) (argsL := [(.ref b), (.int (0 : Int32)), (.int (1 : Int32)), .null]) (rest := []) rfl rfl (g := (mkF m 6 #[.val (.ref a), .val (.ref b)] [.null, (.int (1 : Int32)), (.int (0 : Int32)), (.ref b), (.ref a)])) rfl (by rw [hml]; rfl) rfl (hb hby own_d_jdk_42_3_6) (W := 0) rfl (by decide) (by decide) (by decide) (by decide)
  obtain ⟨r_180, kr_181, rfl, M179, K179, z182, F183, F184, F185, F186, F187⟩ := hQ179
  have N179 := Fr.app N0 M179
  refine own_st (fun u_ k_ => st179 u_ k_) ?_
  show own_Go p e below _ (T179.setTop (mkF m 9 #[.val (.ref a), .val (.ref b)] []))
  have K188 : Keep h0 T179.heap [a] := (Keep.refl h0 [a]).trans K179 (allS (Or.inl (List.mem_of_getElem? (i := 0) rfl)) all0)
  have z189 : h0.size ≤ r_180 := Nat.le_trans (Nat.le_refl _) z182
  exact own_retV X179 hx hlk hret (hb hby own_d_jdk_42_3_9) (by decide) (by decide) (show QrmS1_1_1 Z wcs a b kb v0 h0 n0 none T179.heap _ from (by exact ⟨r_180, kr_181, rfl, N179, K188, z189, F183, F184, F185, F186, F187⟩))
def QrmSJ_1 (Z : State) (wcs : Int32) (a : Addr) (b : Addr) (kb : ClassId) (v0 : Int32) (h0 : Heap) (n0 : Nat) (v : Option Value) (h : Heap) (L : List Loc) : Prop := ∃ r : Addr, ∃ kr : ClassId, ∃ cd : Int32, ∃ ln : Int32, ∃ us : List Value, v = none ∧ Fr n0 L ∧ Keep h0 h [a] ∧ h0.size ≤ r ∧ Exa Z h a "java/lang/String" ∧ Fld Z h a "java/lang/String" "value" "[B" (.ref r) ∧ Fld Z h a "java/lang/String" "coder" "B" (.int cd) ∧ Exa Z h r "[B" ∧ Arv Z h r kr .byte ln us (.int (0 : Int32)) ∧ (ln >>> (cd &&& 31)) = (1 : Int32)
theorem rmSJ_1 (l : Launch) (Z : State) (a0 : Array Value) (hw : own_H a0 Z) (ws : List Jvm.Cond) (wcs : Int32) (hS : own_S Z wcs) (a : Addr) (b : Addr) (kb : ClassId) (v0 : Int32) (h0 : Heap) (n0 : Nat) (O0 : Old Z n0 h0) (E : Exa Z h0 a "java/lang/String") (Ea : Exa Z h0 b "[C") (ga : n0 ≤ a) (F1 : Fld Z h0 a "java/lang/String" "value" "[B" .null) (F2 : Fld Z h0 a "java/lang/String" "coder" "B" (.int (0 : Int32))) (A1 : Arv Z h0 b kb .char (1 : Int32) [(.int v0)] (.int (0 : Int32))) (w0 : own_C16 v0) :
    own_Met l own_y_198 jdk_42_method_3_code 2 none ws ({ frames := 5, cells := 2, slots := 3, locals := 74 } : Room) Z h0 #[(.ref a), (.ref b)] (QrmSJ_1 Z wcs a b kb v0 h0 n0) := by
  by_cases q0 : (255 : Int32) < v0
  · refine MetFree.imp (rmS1_1_0 l Z a0 hw ws wcs hS a b kb v0 h0 n0 O0 E Ea ga F1 F2 A1 q0 w0) ?_
    rintro _ _ _ _ ⟨v, L, e, ⟨r, kr, b1, b2, b3, b4, b5, b6, b7, b8, b9⟩, f⟩
    exact ⟨v, L, e, ⟨r, kr, (1 : Int32), (2 : Int32), [(.int ((v0 >>> ((0 : Int32) &&& 31)).toInt8.toInt32)), (.int ((v0 >>> ((8 : Int32) &&& 31)).toInt8.toInt32))], b1, b2, b3, b4, b5, b6, b7, b8, b9, by decide⟩, f⟩
  · skip
    refine MetFree.imp (rmS1_1_1 l Z a0 hw ws wcs hS a b kb v0 h0 n0 O0 E Ea ga F1 F2 A1 q0) ?_
    rintro _ _ _ _ ⟨v, L, e, ⟨r, kr, b1, b2, b3, b4, b5, b6, b7, b8, b9⟩, f⟩
    exact ⟨v, L, e, ⟨r, kr, (0 : Int32), (1 : Int32), [(.int (v0.toInt8.toInt32))], b1, b2, b3, b4, b5, b6, b7, b8, b9, by decide⟩, f⟩
theorem own_ef_rmCp2_0 (m : MethodId) (a : Addr) (b : Addr)  : entryFrame m #[(.ref a), (.int (0 : Int32)), (.ref b), (.int (0 : Int32)), (.int (2 : Int32))] 7 = mkF m 0 #[.val (.ref a), .val (.int (0 : Int32)), .val (.ref b), .val (.int (0 : Int32)), .val (.int (2 : Int32)), .unset, .unset] [] := by first | (simp [entryFrame, mkF, argsToLocals, Value.category, maxLocals]; done) | rfl
def QrmCp2_0 (Z : State) (wcs : Int32) (a : Addr) (ka : ClassId) (b : Addr) (kb : ClassId) (v0 : Int32) (v1 : Int32) (h0 : Heap) (n0 : Nat) (v : Option Value) (h : Heap) (L : List Loc) : Prop := v = some (.int (0 : Int32)) ∧ Fr n0 L ∧ Keep h0 h [b] ∧ Exa Z h b "[B"
set_option maxRecDepth 65536 in
set_option maxHeartbeats 40000000 in
theorem rmCp2_0 (l : Launch) (Z : State) (a0 : Array Value) (hw : own_H a0 Z) (ws : List Jvm.Cond) (wcs : Int32) (hS : own_S Z wcs) (a : Addr) (ka : ClassId) (b : Addr) (kb : ClassId) (v0 : Int32) (v1 : Int32) (h0 : Heap) (n0 : Nat) (O0 : Old Z n0 h0) (Ea : Exa Z h0 a "[C") (Eb : Exa Z h0 b "[B") (gb : n0 ≤ b) (A1 : Arv Z h0 a ka .char (2 : Int32) [(.int v0), (.int v1)] (.int (0 : Int32))) (A2 : Arv Z h0 b kb .byte (2 : Int32) [(.int (0 : Int32)), (.int (0 : Int32))] (.int (0 : Int32))) (q0 : (255 : Int32) < v0) :
    own_Met l own_y_14 jdk_52_method_21_code 7 (some .int) ws ({ frames := 0, cells := 0, slots := 0, locals := 0 } : Room) Z h0 #[(.ref a), (.int (0 : Int32)), (.ref b), (.int (0 : Int32)), (.int (2 : Int32))] (QrmCp2_0 Z wcs a ka b kb v0 v1 h0 n0) := by
  refine own_body (plainFor_of_name own_pn_15) ?_
  intro p e s m below meth c s₁ hx hby hml hown hnm hret hlk hZ e0 X0
  have N0 := Fr.nil n0
  refine own_st (fun u_ k_ => castTop (own_ef_rmCp2_0 m a b) k_) ?_
  show own_Go p e below _ (s₁.setTop (mkF m 0 #[.val (.ref a), .val (.int (0 : Int32)), .val (.ref b), .val (.int (0 : Int32)), .val (.int (2 : Int32)), .unset, .unset] []))
  refine own_st (fun u_ k_ => XS.iconst X0.here hx rfl (hb hby own_d_jdk_52_21_0) k_) ?_
  show own_Go p e below _ (s₁.setTop (mkF m 1 #[.val (.ref a), .val (.int (0 : Int32)), .val (.ref b), .val (.int (0 : Int32)), .val (.int (2 : Int32)), .unset, .unset] [(.int (0 : Int32))]))
  refine own_st (fun u_ k_ => XS.istore X0.here hx rfl (hb hby own_d_jdk_52_21_1) rfl (l' := #[.val (.ref a), .val (.int (0 : Int32)), .val (.ref b), .val (.int (0 : Int32)), .val (.int (2 : Int32)), .val (.int (0 : Int32)), .unset]) rfl k_) ?_
  show own_Go p e below _ (s₁.setTop (mkF m 3 #[.val (.ref a), .val (.int (0 : Int32)), .val (.ref b), .val (.int (0 : Int32)), .val (.int (2 : Int32)), .val (.int (0 : Int32)), .unset] []))
  refine own_st (fun u_ k_ => XS.iload X0.here hx rfl (hb hby own_d_jdk_52_21_3) rfl k_) ?_
  show own_Go p e below _ (s₁.setTop (mkF m 5 #[.val (.ref a), .val (.int (0 : Int32)), .val (.ref b), .val (.int (0 : Int32)), .val (.int (2 : Int32)), .val (.int (0 : Int32)), .unset] [(.int (0 : Int32))]))
  refine own_st (fun u_ k_ => XS.iload X0.here hx rfl (hb hby own_d_jdk_52_21_5) rfl k_) ?_
  show own_Go p e below _ (s₁.setTop (mkF m 7 #[.val (.ref a), .val (.int (0 : Int32)), .val (.ref b), .val (.int (0 : Int32)), .val (.int (2 : Int32)), .val (.int (0 : Int32)), .unset] [(.int (2 : Int32)), (.int (0 : Int32))]))
  refine own_st (fun u_ k_ => XS.icmpNo X0.here hx rfl (hb hby own_d_jdk_52_21_7) rfl (XT.ii_ge_f (by decide)) k_) ?_
  show own_Go p e below _ (s₁.setTop (mkF m 10 #[.val (.ref a), .val (.int (0 : Int32)), .val (.ref b), .val (.int (0 : Int32)), .val (.int (2 : Int32)), .val (.int (0 : Int32)), .unset] []))
  refine own_st (fun u_ k_ => XS.aloadN X0.here hx rfl (hb hby own_d_jdk_52_21_10) rfl rfl k_) ?_
  show own_Go p e below _ (s₁.setTop (mkF m 11 #[.val (.ref a), .val (.int (0 : Int32)), .val (.ref b), .val (.int (0 : Int32)), .val (.int (2 : Int32)), .val (.int (0 : Int32)), .unset] [(.ref a)]))
  refine own_st (fun u_ k_ => XS.iloadN X0.here hx rfl (hb hby own_d_jdk_52_21_11) rfl k_) ?_
  show own_Go p e below _ (s₁.setTop (mkF m 12 #[.val (.ref a), .val (.int (0 : Int32)), .val (.ref b), .val (.int (0 : Int32)), .val (.int (2 : Int32)), .val (.int (0 : Int32)), .unset] [(.int (0 : Int32)), (.ref a)]))
  obtain ⟨cl190, Ar190, q190, S190, N190, H190, G190⟩ := id A1
  have hi190 : ¬ ((0 : Int32) < 0 ∨ cl190.slots.size ≤ ((0 : Int32)).toNatClampNeg) := inb_of S190 ⟨by decide, by decide⟩
  have ha190 : cl190.slots[((0 : Int32)).toNatClampNeg]? = some (.int v0) := H190.at hi190 rfl
  refine own_st (X0.caload hx (j := (0 : Int32)) (v := (.int v0)) (by rw [e0]; exact Ar190.1) (State.isArrayOf_alike hZ.alike Ar190.2.1) Ar190.2.2 hi190 ha190 (g := (mkF m 12 #[.val (.ref a), .val (.int (0 : Int32)), .val (.ref b), .val (.int (0 : Int32)), .val (.int (2 : Int32)), .val (.int (0 : Int32)), .unset] [(.int (0 : Int32)), (.ref a)])) rfl rfl (hb hby own_d_jdk_52_21_12)) ?_
  show own_Go p e below _ (s₁.setTop (mkF m 13 #[.val (.ref a), .val (.int (0 : Int32)), .val (.ref b), .val (.int (0 : Int32)), .val (.int (2 : Int32)), .val (.int (0 : Int32)), .unset] [(.int v0)]))
  refine own_st (fun u_ k_ => XS.istore X0.here hx rfl (hb hby own_d_jdk_52_21_13) rfl (l' := #[.val (.ref a), .val (.int (0 : Int32)), .val (.ref b), .val (.int (0 : Int32)), .val (.int (2 : Int32)), .val (.int (0 : Int32)), .val (.int v0)]) rfl k_) ?_
  show own_Go p e below _ (s₁.setTop (mkF m 15 #[.val (.ref a), .val (.int (0 : Int32)), .val (.ref b), .val (.int (0 : Int32)), .val (.int (2 : Int32)), .val (.int (0 : Int32)), .val (.int v0)] []))
  refine own_st (fun u_ k_ => XS.iload X0.here hx rfl (hb hby own_d_jdk_52_21_15) rfl k_) ?_
  show own_Go p e below _ (s₁.setTop (mkF m 17 #[.val (.ref a), .val (.int (0 : Int32)), .val (.ref b), .val (.int (0 : Int32)), .val (.int (2 : Int32)), .val (.int (0 : Int32)), .val (.int v0)] [(.int v0)]))
  refine own_st (fun u_ k_ => XS.sipush X0.here hx rfl (hb hby own_d_jdk_52_21_17) k_) ?_
  show own_Go p e below _ (s₁.setTop (mkF m 20 #[.val (.ref a), .val (.int (0 : Int32)), .val (.ref b), .val (.int (0 : Int32)), .val (.int (2 : Int32)), .val (.int (0 : Int32)), .val (.int v0)] [(.int (255 : Int32)), (.int v0)]))
  refine own_st (fun u_ k_ => XS.icmpNo X0.here hx rfl (hb hby own_d_jdk_52_21_20) rfl (XT.ii_le_f q0) k_) ?_
  show own_Go p e below _ (s₁.setTop (mkF m 23 #[.val (.ref a), .val (.int (0 : Int32)), .val (.ref b), .val (.int (0 : Int32)), .val (.int (2 : Int32)), .val (.int (0 : Int32)), .val (.int v0)] []))
  refine own_st (fun u_ k_ => XS.iload X0.here hx rfl (hb hby own_d_jdk_52_21_23) rfl k_) ?_
  show own_Go p e below _ (s₁.setTop (mkF m 25 #[.val (.ref a), .val (.int (0 : Int32)), .val (.ref b), .val (.int (0 : Int32)), .val (.int (2 : Int32)), .val (.int (0 : Int32)), .val (.int v0)] [(.int (0 : Int32))]))
  exact own_retX X0 hx hlk hret rfl (Or.inl ⟨rfl, by simp, _, rfl⟩) (hb hby own_d_jdk_52_21_25) (by decide) (by decide) (show QrmCp2_0 Z wcs a ka b kb v0 v1 h0 n0 (some (.int (0 : Int32))) s₁.heap _ from (by rw [e0]; exact ⟨rfl, N0, (Keep.refl h0 [b]), Eb⟩))
theorem own_ef_rmNL2 (m : MethodId)   : entryFrame m #[(.int (2 : Int32))] 1 = mkF m 0 #[.val (.int (2 : Int32))] [] := by first | (simp [entryFrame, mkF, argsToLocals, Value.category, maxLocals]; done) | rfl
def QrmNL2 (Z : State) (wcs : Int32)  (h0 : Heap) (n0 : Nat) (v : Option Value) (h : Heap) (L : List Loc) : Prop := v = some (.int (4 : Int32)) ∧ Fr n0 L ∧ h = h0
set_option maxRecDepth 65536 in
set_option maxHeartbeats 40000000 in
theorem rmNL2 (l : Launch) (Z : State) (a0 : Array Value) (hw : own_H a0 Z) (ws : List Jvm.Cond) (wcs : Int32) (hS : own_S Z wcs)  (h0 : Heap) (n0 : Nat) (O0 : Old Z n0 h0)  :
    own_Met l own_y_25 jdk_52_method_3_code 1 (some .int) ws ({ frames := 0, cells := 0, slots := 0, locals := 0 } : Room) Z h0 #[(.int (2 : Int32))] (QrmNL2 Z wcs  h0 n0) := by
  refine own_body (plainFor_of_name own_pn_15) ?_
  intro p e s m below meth c s₁ hx hby hml hown hnm hret hlk hZ e0 X0
  have N0 := Fr.nil n0
  refine own_st (fun u_ k_ => castTop (own_ef_rmNL2 m ) k_) ?_
  show own_Go p e below _ (s₁.setTop (mkF m 0 #[.val (.int (2 : Int32))] []))
  refine own_st (fun u_ k_ => XS.iloadN X0.here hx rfl (hb hby own_d_jdk_52_3_0) rfl k_) ?_
  show own_Go p e below _ (s₁.setTop (mkF m 1 #[.val (.int (2 : Int32))] [(.int (2 : Int32))]))
  refine own_st (fun u_ k_ => XS.ifYes X0.here hx rfl (pc0 := 1) (pc' := 12) rfl (hb hby own_d_jdk_52_3_1) rfl (XT.i0_ge_t (by decide)) (by decide) (by decide) k_) ?_
  show own_Go p e below _ (s₁.setTop (mkF m 12 #[.val (.int (2 : Int32))] []))
  refine own_st (fun u_ k_ => XS.iloadN X0.here hx rfl (hb hby own_d_jdk_52_3_12) rfl k_) ?_
  show own_Go p e below _ (s₁.setTop (mkF m 13 #[.val (.int (2 : Int32))] [(.int (2 : Int32))]))
  refine own_st (X0.ldcInt hx hown (mvT hZ (own_w hw 68 rfl)) (g := (mkF m 13 #[.val (.int (2 : Int32))] [(.int (2 : Int32))])) rfl (hb hby own_d_jdk_52_3_13)) ?_
  show own_Go p e below _ (s₁.setTop (mkF m 15 #[.val (.int (2 : Int32))] [(.int (1073741823 : Int32)), (.int (2 : Int32))]))
  refine own_st (fun u_ k_ => XS.icmpYes X0.here hx rfl (pc0 := 15) (pc' := 55) rfl (hb hby own_d_jdk_52_3_15) rfl (XT.ii_lt_t (by decide)) (by decide) (by decide) k_) ?_
  show own_Go p e below _ (s₁.setTop (mkF m 55 #[.val (.int (2 : Int32))] []))
  refine own_st (fun u_ k_ => XS.iloadN X0.here hx rfl (hb hby own_d_jdk_52_3_55) rfl k_) ?_
  show own_Go p e below _ (s₁.setTop (mkF m 56 #[.val (.int (2 : Int32))] [(.int (2 : Int32))]))
  refine own_st (fun u_ k_ => XS.iconst X0.here hx rfl (hb hby own_d_jdk_52_3_56) k_) ?_
  show own_Go p e below _ (s₁.setTop (mkF m 57 #[.val (.int (2 : Int32))] [(.int (1 : Int32)), (.int (2 : Int32))]))
  refine own_st (fun u_ k_ => XS.ishl X0.here hx rfl (hb hby own_d_jdk_52_3_57) rfl k_) ?_
  show own_Go p e below _ (s₁.setTop (mkF m 58 #[.val (.int (2 : Int32))] [(.int (4 : Int32))]))
  exact own_retX X0 hx hlk hret rfl (Or.inl ⟨rfl, by simp, _, rfl⟩) (hb hby own_d_jdk_52_3_58) (by decide) (by decide) (show QrmNL2 Z wcs  h0 n0 (some (.int (4 : Int32))) s₁.heap _ from (by rw [e0]; exact ⟨rfl, N0, rfl⟩))
theorem own_ef_rmNB2 (m : MethodId)   : entryFrame m #[(.int (2 : Int32))] 1 = mkF m 0 #[.val (.int (2 : Int32))] [] := by first | (simp [entryFrame, mkF, argsToLocals, Value.category, maxLocals]; done) | rfl
def QrmNB2 (Z : State) (wcs : Int32)  (h0 : Heap) (n0 : Nat) (v : Option Value) (h : Heap) (L : List Loc) : Prop := ∃ r : Addr, ∃ kr : ClassId, v = some (.ref r) ∧ Fr n0 L ∧ Keep h0 h [] ∧ h0.size ≤ r ∧ Exa Z h r "[B" ∧ Arv Z h r kr .byte (4 : Int32) [(.int (0 : Int32)), (.int (0 : Int32)), (.int (0 : Int32)), (.int (0 : Int32))] (.int (0 : Int32))
set_option maxRecDepth 65536 in
set_option maxHeartbeats 40000000 in
theorem rmNB2 (l : Launch) (Z : State) (a0 : Array Value) (hw : own_H a0 Z) (ws : List Jvm.Cond) (wcs : Int32) (hS : own_S Z wcs)  (h0 : Heap) (n0 : Nat) (O0 : Old Z n0 h0)  :
    own_Met l own_y_33 jdk_52_method_2_code 1 (some (.array .byte)) ws ({ frames := 1, cells := 1, slots := 4, locals := 12 } : Room) Z h0 #[(.int (2 : Int32))] (QrmNB2 Z wcs  h0 n0) := by
  refine own_body (plainFor_of_name own_pn_15) ?_
  intro p e s m below meth c s₁ hx hby hml hown hnm hret hlk hZ e0 X0
  have N0 := Fr.nil n0
  refine own_st (fun u_ k_ => castTop (own_ef_rmNB2 m ) k_) ?_
  show own_Go p e below _ (s₁.setTop (mkF m 0 #[.val (.int (2 : Int32))] []))
  refine own_st (fun u_ k_ => XS.iloadN X0.here hx rfl (hb hby own_d_jdk_52_2_0) rfl k_) ?_
  show own_Go p e below _ (s₁.setTop (mkF m 1 #[.val (.int (2 : Int32))] [(.int (2 : Int32))]))
  obtain ⟨T191, v191, L191, X191, hQ191, st191⟩ := own_callS X0 hx hZ (y := own_y_25) hown (own_w hw 65 rfl) (own_w hw 66 rfl) (own_w hw 18 rfl) (own_w hw 67 rfl) own_lm_28 (rmNL2 l Z a0 hw [] wcs hS  h0 n0 O0 ) e0 own_pd_29 (argsL := [(.int (2 : Int32))]) (rest := []) rfl rfl (g := (mkF m 1 #[.val (.int (2 : Int32))] [(.int (2 : Int32))])) rfl (by rw [hml]; rfl) rfl (hb hby own_d_jdk_52_2_1) (W := 0) rfl (by decide) (by decide) (by decide) (by decide)
  obtain ⟨rfl, M191, e191⟩ := hQ191
  have N191 := Fr.app N0 M191
  refine own_st (fun u_ k_ => st191 u_ k_) ?_
  show own_Go p e below _ (T191.setTop (mkF m 4 #[.val (.int (2 : Int32))] [(.int (4 : Int32))]))
  obtain ⟨T192, h192, k192, X192, e192, E192, A192, Y192, st192⟩ := newPE X191 hx hZ (own_w hw 20 rfl) e191 (g := (mkF m 4 #[.val (.int (2 : Int32))] [(.int (4 : Int32))])) rfl (hb hby own_d_jdk_52_2_4) rfl (by decide) (cap := 4) (by decide) (by decide) (by decide) (by decide) (ad := "[B") own_lm_31
  obtain ⟨b192, g192⟩ : ∃ z, z = h0.size := ⟨_, rfl⟩
  rw [← g192] at A192 Y192 st192
  have V192 : Arv Z h192 b192 k192 .byte (4 : Int32) [(.int (0 : Int32)), (.int (0 : Int32)), (.int (0 : Int32)), (.int (0 : Int32))] (.int (0 : Int32)) := (Arv.new A192 (by decide)).pad (pad_rep [] (.int (0 : Int32)) 4)
  refine own_st (fun u_ k_ => st192 u_ k_) ?_
  show own_Go p e below _ (T192.setTop (mkF m 6 #[.val (.int (2 : Int32))] [(.ref b192)]))
  have K193 : Keep h0 h192 [] := (Keep.refl h0 []).ext E192
  have z194 : h0.size ≤ b192 := Nat.le_trans (Nat.le_refl _) (Nat.le_of_eq g192.symm)
  exact own_retX X192 hx hlk hret rfl (Or.inr (Or.inr (Or.inr (Or.inr ⟨rfl, rfl, rfl⟩)))) (hb hby own_d_jdk_52_2_6) (by decide) (by decide) (show QrmNB2 Z wcs  h0 n0 (some (.ref b192)) T192.heap _ from (by rw [e192]; exact ⟨b192, k192, rfl, N191, K193, z194, Y192, V192⟩))
theorem own_ef_rmPC2_0 (m : MethodId) (b : Addr) (cv : Int32)  : entryFrame m #[(.ref b), (.int (0 : Int32)), (.int cv)] 3 = mkF m 0 #[.val (.ref b), .val (.int (0 : Int32)), .val (.int cv)] [] := by first | (simp [entryFrame, mkF, argsToLocals, Value.category, maxLocals]; done) | rfl
def QrmPC2_0 (Z : State) (wcs : Int32) (b : Addr) (kb : ClassId) (cv : Int32) (u0 : Int32) (u1 : Int32) (u2 : Int32) (u3 : Int32) (h0 : Heap) (n0 : Nat) (v : Option Value) (h : Heap) (L : List Loc) : Prop := v = none ∧ Fr n0 L ∧ Keep h0 h [b] ∧ Exa Z h b "[B" ∧ Arv Z h b kb .byte (4 : Int32) [(.int ((cv >>> ((0 : Int32) &&& 31)).toInt8.toInt32)), (.int ((cv >>> ((8 : Int32) &&& 31)).toInt8.toInt32)), (.int u2), (.int u3)] (.int (0 : Int32))
set_option maxRecDepth 65536 in
set_option maxHeartbeats 40000000 in
theorem rmPC2_0 (l : Launch) (Z : State) (a0 : Array Value) (hw : own_H a0 Z) (ws : List Jvm.Cond) (wcs : Int32) (hS : own_S Z wcs) (b : Addr) (kb : ClassId) (cv : Int32) (u0 : Int32) (u1 : Int32) (u2 : Int32) (u3 : Int32) (h0 : Heap) (n0 : Nat) (O0 : Old Z n0 h0) (Eb : Exa Z h0 b "[B") (gb : n0 ≤ b) (A2 : Arv Z h0 b kb .byte (4 : Int32) [(.int u0), (.int u1), (.int u2), (.int u3)] (.int (0 : Int32))) :
    own_Met l own_y_56 jdk_52_method_4_code 3 none ws ({ frames := 0, cells := 0, slots := 0, locals := 0 } : Room) Z h0 #[(.ref b), (.int (0 : Int32)), (.int cv)] (QrmPC2_0 Z wcs b kb cv u0 u1 u2 u3 h0 n0) := by
  refine own_body (plainFor_of_name own_pn_15) ?_
  intro p e s m below meth c s₁ hx hby hml hown hnm hret hlk hZ e0 X0
  have N0 := Fr.nil n0
  refine own_st (fun u_ k_ => castTop (own_ef_rmPC2_0 m b cv) k_) ?_
  show own_Go p e below _ (s₁.setTop (mkF m 0 #[.val (.ref b), .val (.int (0 : Int32)), .val (.int cv)] []))
  have F195 := Sta.ext O0.2 hS.2.2.1
  obtain ⟨T196, X196, e196, st196⟩ := getS2 X0 hx hZ hown (host := "") (Or.inl (own_w hw 72 rfl)) Via.refl e0 F195 (g := (mkF m 0 #[.val (.ref b), .val (.int (0 : Int32)), .val (.int cv)] [])) rfl (hb hby own_d_jdk_52_4_0)
  refine own_st (fun u_ k_ => st196 u_ k_) ?_
  show own_Go p e below _ (T196.setTop (mkF m 3 #[.val (.ref b), .val (.int (0 : Int32)), .val (.int cv)] [(.int (1 : Int32))]))
  refine own_st (fun u_ k_ => XS.ifYes X196.here hx rfl (pc0 := 3) (pc' := 28) rfl (hb hby own_d_jdk_52_4_3) rfl (XT.i0_ne_t (by decide)) (by decide) (by decide) k_) ?_
  show own_Go p e below _ (T196.setTop (mkF m 28 #[.val (.ref b), .val (.int (0 : Int32)), .val (.int cv)] []))
  refine own_st (fun u_ k_ => XS.iloadN X196.here hx rfl (hb hby own_d_jdk_52_4_28) rfl k_) ?_
  show own_Go p e below _ (T196.setTop (mkF m 29 #[.val (.ref b), .val (.int (0 : Int32)), .val (.int cv)] [(.int (0 : Int32))]))
  refine own_st (fun u_ k_ => XS.iconst X196.here hx rfl (hb hby own_d_jdk_52_4_29) k_) ?_
  show own_Go p e below _ (T196.setTop (mkF m 30 #[.val (.ref b), .val (.int (0 : Int32)), .val (.int cv)] [(.int (1 : Int32)), (.int (0 : Int32))]))
  refine own_st (fun u_ k_ => XS.ishl X196.here hx rfl (hb hby own_d_jdk_52_4_30) rfl k_) ?_
  show own_Go p e below _ (T196.setTop (mkF m 31 #[.val (.ref b), .val (.int (0 : Int32)), .val (.int cv)] [(.int (0 : Int32))]))
  refine own_st (fun u_ k_ => XS.istoreN X196.here hx rfl (hb hby own_d_jdk_52_4_31) rfl (l' := #[.val (.ref b), .val (.int (0 : Int32)), .val (.int cv)]) rfl k_) ?_
  show own_Go p e below _ (T196.setTop (mkF m 32 #[.val (.ref b), .val (.int (0 : Int32)), .val (.int cv)] []))
  refine own_st (fun u_ k_ => XS.aloadN X196.here hx rfl (hb hby own_d_jdk_52_4_32) rfl rfl k_) ?_
  show own_Go p e below _ (T196.setTop (mkF m 33 #[.val (.ref b), .val (.int (0 : Int32)), .val (.int cv)] [(.ref b)]))
  refine own_st (fun u_ k_ => XS.iloadN X196.here hx rfl (hb hby own_d_jdk_52_4_33) rfl k_) ?_
  show own_Go p e below _ (T196.setTop (mkF m 34 #[.val (.ref b), .val (.int (0 : Int32)), .val (.int cv)] [(.int (0 : Int32)), (.ref b)]))
  refine own_st (fun u_ k_ => XS.iinc X196.here hx rfl (hb hby own_d_jdk_52_4_34) rfl (l' := #[.val (.ref b), .val (.int (1 : Int32)), .val (.int cv)]) rfl k_) ?_
  show own_Go p e below _ (T196.setTop (mkF m 37 #[.val (.ref b), .val (.int (1 : Int32)), .val (.int cv)] [(.int (0 : Int32)), (.ref b)]))
  refine own_st (fun u_ k_ => XS.iloadN X196.here hx rfl (hb hby own_d_jdk_52_4_37) rfl k_) ?_
  show own_Go p e below _ (T196.setTop (mkF m 38 #[.val (.ref b), .val (.int (1 : Int32)), .val (.int cv)] [(.int cv), (.int (0 : Int32)), (.ref b)]))
  have F197 := Sta.ext O0.2 hS.2.2.2.1
  obtain ⟨T198, X198, e198, st198⟩ := getS2 X196 hx hZ hown (host := "") (Or.inl (own_w hw 73 rfl)) Via.refl e196 F197 (g := (mkF m 38 #[.val (.ref b), .val (.int (1 : Int32)), .val (.int cv)] [(.int cv), (.int (0 : Int32)), (.ref b)])) rfl (hb hby own_d_jdk_52_4_38)
  refine own_st (fun u_ k_ => st198 u_ k_) ?_
  show own_Go p e below _ (T198.setTop (mkF m 41 #[.val (.ref b), .val (.int (1 : Int32)), .val (.int cv)] [(.int (0 : Int32)), (.int cv), (.int (0 : Int32)), (.ref b)]))
  refine own_st (fun u_ k_ => XS.ishr X198.here hx rfl (hb hby own_d_jdk_52_4_41) rfl k_) ?_
  show own_Go p e below _ (T198.setTop (mkF m 42 #[.val (.ref b), .val (.int (1 : Int32)), .val (.int cv)] [(.int (cv >>> ((0 : Int32) &&& 31))), (.int (0 : Int32)), (.ref b)]))
  refine own_st (fun u_ k_ => XS.i2b X198.here hx rfl (hb hby own_d_jdk_52_4_42) rfl k_) ?_
  show own_Go p e below _ (T198.setTop (mkF m 43 #[.val (.ref b), .val (.int (1 : Int32)), .val (.int cv)] [(.int ((cv >>> ((0 : Int32) &&& 31)).toInt8.toInt32)), (.int (0 : Int32)), (.ref b)]))
  obtain ⟨cl199, Ar199, q199, S199, N199, H199, G199⟩ := id A2
  have hi199 : ¬ ((0 : Int32) < 0 ∨ cl199.slots.size ≤ ((0 : Int32)).toNatClampNeg) := inb_of S199 ⟨by decide, by decide⟩
  obtain ⟨T200, h200, X200, e200, W200, st200⟩ := stB X198 hx hZ e198 Ar199 (j := (0 : Int32)) hi199 (g := (mkF m 43 #[.val (.ref b), .val (.int (1 : Int32)), .val (.int cv)] [(.int ((cv >>> ((0 : Int32) &&& 31)).toInt8.toInt32)), (.int (0 : Int32)), (.ref b)])) rfl rfl (hb hby own_d_jdk_52_4_43)
  rw [own_bb] at W200
  have N200 := Fr.snoc X200 N0 gb
  have V200 : Arv Z h200 b kb .byte (4 : Int32) [(.int ((cv >>> ((0 : Int32) &&& 31)).toInt8.toInt32)), (.int u1), (.int u2), (.int u3)] (.int (0 : Int32)) := Arv.set Ar199 q199 S199 N199 H199 G199 (fits_nar_byte _) W200 0 rfl (Nat.le_of_ble_eq_true rfl)
  refine own_st (fun u_ k_ => st200 u_ k_) ?_
  show own_Go p e below _ (T200.setTop (mkF m 44 #[.val (.ref b), .val (.int (1 : Int32)), .val (.int cv)] []))
  refine own_st (fun u_ k_ => XS.aloadN X200.here hx rfl (hb hby own_d_jdk_52_4_44) rfl rfl k_) ?_
  show own_Go p e below _ (T200.setTop (mkF m 45 #[.val (.ref b), .val (.int (1 : Int32)), .val (.int cv)] [(.ref b)]))
  refine own_st (fun u_ k_ => XS.iloadN X200.here hx rfl (hb hby own_d_jdk_52_4_45) rfl k_) ?_
  show own_Go p e below _ (T200.setTop (mkF m 46 #[.val (.ref b), .val (.int (1 : Int32)), .val (.int cv)] [(.int (1 : Int32)), (.ref b)]))
  refine own_st (fun u_ k_ => XS.iloadN X200.here hx rfl (hb hby own_d_jdk_52_4_46) rfl k_) ?_
  show own_Go p e below _ (T200.setTop (mkF m 47 #[.val (.ref b), .val (.int (1 : Int32)), .val (.int cv)] [(.int cv), (.int (1 : Int32)), (.ref b)]))
  have O201 : Old Z n0 h200 := O0.wr W200 gb
  have F202 := Sta.ext O201.2 hS.2.2.2.2
  obtain ⟨T203, X203, e203, st203⟩ := getS2 X200 hx hZ hown (host := "") (Or.inl (own_w hw 74 rfl)) Via.refl e200 F202 (g := (mkF m 47 #[.val (.ref b), .val (.int (1 : Int32)), .val (.int cv)] [(.int cv), (.int (1 : Int32)), (.ref b)])) rfl (hb hby own_d_jdk_52_4_47)
  refine own_st (fun u_ k_ => st203 u_ k_) ?_
  show own_Go p e below _ (T203.setTop (mkF m 50 #[.val (.ref b), .val (.int (1 : Int32)), .val (.int cv)] [(.int (8 : Int32)), (.int cv), (.int (1 : Int32)), (.ref b)]))
  refine own_st (fun u_ k_ => XS.ishr X203.here hx rfl (hb hby own_d_jdk_52_4_50) rfl k_) ?_
  show own_Go p e below _ (T203.setTop (mkF m 51 #[.val (.ref b), .val (.int (1 : Int32)), .val (.int cv)] [(.int (cv >>> ((8 : Int32) &&& 31))), (.int (1 : Int32)), (.ref b)]))
  refine own_st (fun u_ k_ => XS.i2b X203.here hx rfl (hb hby own_d_jdk_52_4_51) rfl k_) ?_
  show own_Go p e below _ (T203.setTop (mkF m 52 #[.val (.ref b), .val (.int (1 : Int32)), .val (.int cv)] [(.int ((cv >>> ((8 : Int32) &&& 31)).toInt8.toInt32)), (.int (1 : Int32)), (.ref b)]))
  obtain ⟨cl204, Ar204, q204, S204, N204, H204, G204⟩ := id V200
  have hi204 : ¬ ((1 : Int32) < 0 ∨ cl204.slots.size ≤ ((1 : Int32)).toNatClampNeg) := inb_of S204 ⟨by decide, by decide⟩
  obtain ⟨T205, h205, X205, e205, W205, st205⟩ := stB X203 hx hZ e203 Ar204 (j := (1 : Int32)) hi204 (g := (mkF m 52 #[.val (.ref b), .val (.int (1 : Int32)), .val (.int cv)] [(.int ((cv >>> ((8 : Int32) &&& 31)).toInt8.toInt32)), (.int (1 : Int32)), (.ref b)])) rfl rfl (hb hby own_d_jdk_52_4_52)
  rw [own_bb] at W205
  have N205 := Fr.snoc X205 N200 gb
  have V205 : Arv Z h205 b kb .byte (4 : Int32) [(.int ((cv >>> ((0 : Int32) &&& 31)).toInt8.toInt32)), (.int ((cv >>> ((8 : Int32) &&& 31)).toInt8.toInt32)), (.int u2), (.int u3)] (.int (0 : Int32)) := Arv.set Ar204 q204 S204 N204 H204 G204 (fits_nar_byte _) W205 1 rfl (Nat.le_of_ble_eq_true rfl)
  refine own_st (fun u_ k_ => st205 u_ k_) ?_
  show own_Go p e below _ (T205.setTop (mkF m 53 #[.val (.ref b), .val (.int (1 : Int32)), .val (.int cv)] []))
  have K206 : Keep h0 h200 [b] := (Keep.refl h0 [b]).wr W200 (Or.inl (List.mem_of_getElem? (i := 0) rfl))
  have K207 : Keep h0 h205 [b] := K206.wr W205 (Or.inl (List.mem_of_getElem? (i := 0) rfl))
  have F208 := (Exa.wr W205 (Exa.wr W200 Eb))
  exact own_retV X205 hx hlk hret (hb hby own_d_jdk_52_4_53) (by decide) (by decide) (show QrmPC2_0 Z wcs b kb cv u0 u1 u2 u3 h0 n0 none T205.heap _ from (by rw [e205]; exact ⟨rfl, N205, K207, F208, V205⟩))
theorem own_ef_rmGC2_0 (m : MethodId) (b : Addr)  : entryFrame m #[(.ref b), (.int (0 : Int32))] 2 = mkF m 0 #[.val (.ref b), .val (.int (0 : Int32))] [] := by first | (simp [entryFrame, mkF, argsToLocals, Value.category, maxLocals]; done) | rfl
def QrmGC2_0 (Z : State) (wcs : Int32) (b : Addr) (kb : ClassId) (u0 : Int32) (u1 : Int32) (u2 : Int32) (u3 : Int32) (h0 : Heap) (n0 : Nat) (v : Option Value) (h : Heap) (L : List Loc) : Prop := v = some (.int ((((u0 &&& (255 : Int32)) <<< ((0 : Int32) &&& 31)) ||| ((u1 &&& (255 : Int32)) <<< ((8 : Int32) &&& 31))).toUInt32.toUInt16.toUInt32.toInt32)) ∧ Fr n0 L ∧ h = h0
set_option maxRecDepth 65536 in
set_option maxHeartbeats 40000000 in
theorem rmGC2_0 (l : Launch) (Z : State) (a0 : Array Value) (hw : own_H a0 Z) (ws : List Jvm.Cond) (wcs : Int32) (hS : own_S Z wcs) (b : Addr) (kb : ClassId) (u0 : Int32) (u1 : Int32) (u2 : Int32) (u3 : Int32) (h0 : Heap) (n0 : Nat) (O0 : Old Z n0 h0) (A2 : Arv Z h0 b kb .byte (4 : Int32) [(.int u0), (.int u1), (.int u2), (.int u3)] (.int (0 : Int32))) :
    own_Met l own_y_81 jdk_52_method_5_code 2 (some .char) ws ({ frames := 0, cells := 0, slots := 0, locals := 0 } : Room) Z h0 #[(.ref b), (.int (0 : Int32))] (QrmGC2_0 Z wcs b kb u0 u1 u2 u3 h0 n0) := by
  refine own_body (plainFor_of_name own_pn_15) ?_
  intro p e s m below meth c s₁ hx hby hml hown hnm hret hlk hZ e0 X0
  have N0 := Fr.nil n0
  refine own_st (fun u_ k_ => castTop (own_ef_rmGC2_0 m b) k_) ?_
  show own_Go p e below _ (s₁.setTop (mkF m 0 #[.val (.ref b), .val (.int (0 : Int32))] []))
  have F209 := Sta.ext O0.2 hS.2.2.1
  obtain ⟨T210, X210, e210, st210⟩ := getS2 X0 hx hZ hown (host := "") (Or.inl (own_w hw 72 rfl)) Via.refl e0 F209 (g := (mkF m 0 #[.val (.ref b), .val (.int (0 : Int32))] [])) rfl (hb hby own_d_jdk_52_5_0)
  refine own_st (fun u_ k_ => st210 u_ k_) ?_
  show own_Go p e below _ (T210.setTop (mkF m 3 #[.val (.ref b), .val (.int (0 : Int32))] [(.int (1 : Int32))]))
  refine own_st (fun u_ k_ => XS.ifYes X210.here hx rfl (pc0 := 3) (pc' := 28) rfl (hb hby own_d_jdk_52_5_3) rfl (XT.i0_ne_t (by decide)) (by decide) (by decide) k_) ?_
  show own_Go p e below _ (T210.setTop (mkF m 28 #[.val (.ref b), .val (.int (0 : Int32))] []))
  refine own_st (fun u_ k_ => XS.iloadN X210.here hx rfl (hb hby own_d_jdk_52_5_28) rfl k_) ?_
  show own_Go p e below _ (T210.setTop (mkF m 29 #[.val (.ref b), .val (.int (0 : Int32))] [(.int (0 : Int32))]))
  refine own_st (fun u_ k_ => XS.iconst X210.here hx rfl (hb hby own_d_jdk_52_5_29) k_) ?_
  show own_Go p e below _ (T210.setTop (mkF m 30 #[.val (.ref b), .val (.int (0 : Int32))] [(.int (1 : Int32)), (.int (0 : Int32))]))
  refine own_st (fun u_ k_ => XS.ishl X210.here hx rfl (hb hby own_d_jdk_52_5_30) rfl k_) ?_
  show own_Go p e below _ (T210.setTop (mkF m 31 #[.val (.ref b), .val (.int (0 : Int32))] [(.int (0 : Int32))]))
  refine own_st (fun u_ k_ => XS.istoreN X210.here hx rfl (hb hby own_d_jdk_52_5_31) rfl (l' := #[.val (.ref b), .val (.int (0 : Int32))]) rfl k_) ?_
  show own_Go p e below _ (T210.setTop (mkF m 32 #[.val (.ref b), .val (.int (0 : Int32))] []))
  refine own_st (fun u_ k_ => XS.aloadN X210.here hx rfl (hb hby own_d_jdk_52_5_32) rfl rfl k_) ?_
  show own_Go p e below _ (T210.setTop (mkF m 33 #[.val (.ref b), .val (.int (0 : Int32))] [(.ref b)]))
  refine own_st (fun u_ k_ => XS.iloadN X210.here hx rfl (hb hby own_d_jdk_52_5_33) rfl k_) ?_
  show own_Go p e below _ (T210.setTop (mkF m 34 #[.val (.ref b), .val (.int (0 : Int32))] [(.int (0 : Int32)), (.ref b)]))
  refine own_st (fun u_ k_ => XS.iinc X210.here hx rfl (hb hby own_d_jdk_52_5_34) rfl (l' := #[.val (.ref b), .val (.int (1 : Int32))]) rfl k_) ?_
  show own_Go p e below _ (T210.setTop (mkF m 37 #[.val (.ref b), .val (.int (1 : Int32))] [(.int (0 : Int32)), (.ref b)]))
  obtain ⟨cl211, Ar211, q211, S211, N211, H211, G211⟩ := id A2
  have hi211 : ¬ ((0 : Int32) < 0 ∨ cl211.slots.size ≤ ((0 : Int32)).toNatClampNeg) := inb_of S211 ⟨by decide, by decide⟩
  have ha211 : cl211.slots[((0 : Int32)).toNatClampNeg]? = some (.int u0) := H211.at hi211 rfl
  refine own_st (X210.baloadBytes hx (j := (0 : Int32)) (v := (.int u0)) (by rw [e210]; exact Ar211.1) (State.isArrayOf_alike hZ.alike Ar211.2.1) Ar211.2.2 hi211 ha211 (g := (mkF m 37 #[.val (.ref b), .val (.int (1 : Int32))] [(.int (0 : Int32)), (.ref b)])) rfl rfl (hb hby own_d_jdk_52_5_37)) ?_
  show own_Go p e below _ (T210.setTop (mkF m 38 #[.val (.ref b), .val (.int (1 : Int32))] [(.int u0)]))
  refine own_st (fun u_ k_ => XS.sipush X210.here hx rfl (hb hby own_d_jdk_52_5_38) k_) ?_
  show own_Go p e below _ (T210.setTop (mkF m 41 #[.val (.ref b), .val (.int (1 : Int32))] [(.int (255 : Int32)), (.int u0)]))
  refine own_st (fun u_ k_ => XS.iand X210.here hx rfl (hb hby own_d_jdk_52_5_41) rfl k_) ?_
  show own_Go p e below _ (T210.setTop (mkF m 42 #[.val (.ref b), .val (.int (1 : Int32))] [(.int (u0 &&& (255 : Int32)))]))
  have F212 := Sta.ext O0.2 hS.2.2.2.1
  obtain ⟨T213, X213, e213, st213⟩ := getS2 X210 hx hZ hown (host := "") (Or.inl (own_w hw 73 rfl)) Via.refl e210 F212 (g := (mkF m 42 #[.val (.ref b), .val (.int (1 : Int32))] [(.int (u0 &&& (255 : Int32)))])) rfl (hb hby own_d_jdk_52_5_42)
  refine own_st (fun u_ k_ => st213 u_ k_) ?_
  show own_Go p e below _ (T213.setTop (mkF m 45 #[.val (.ref b), .val (.int (1 : Int32))] [(.int (0 : Int32)), (.int (u0 &&& (255 : Int32)))]))
  refine own_st (fun u_ k_ => XS.ishl X213.here hx rfl (hb hby own_d_jdk_52_5_45) rfl k_) ?_
  show own_Go p e below _ (T213.setTop (mkF m 46 #[.val (.ref b), .val (.int (1 : Int32))] [(.int ((u0 &&& (255 : Int32)) <<< ((0 : Int32) &&& 31)))]))
  refine own_st (fun u_ k_ => XS.aloadN X213.here hx rfl (hb hby own_d_jdk_52_5_46) rfl rfl k_) ?_
  show own_Go p e below _ (T213.setTop (mkF m 47 #[.val (.ref b), .val (.int (1 : Int32))] [(.ref b), (.int ((u0 &&& (255 : Int32)) <<< ((0 : Int32) &&& 31)))]))
  refine own_st (fun u_ k_ => XS.iloadN X213.here hx rfl (hb hby own_d_jdk_52_5_47) rfl k_) ?_
  show own_Go p e below _ (T213.setTop (mkF m 48 #[.val (.ref b), .val (.int (1 : Int32))] [(.int (1 : Int32)), (.ref b), (.int ((u0 &&& (255 : Int32)) <<< ((0 : Int32) &&& 31)))]))
  obtain ⟨cl214, Ar214, q214, S214, N214, H214, G214⟩ := id A2
  have hi214 : ¬ ((1 : Int32) < 0 ∨ cl214.slots.size ≤ ((1 : Int32)).toNatClampNeg) := inb_of S214 ⟨by decide, by decide⟩
  have ha214 : cl214.slots[((1 : Int32)).toNatClampNeg]? = some (.int u1) := H214.at hi214 rfl
  refine own_st (X213.baloadBytes hx (j := (1 : Int32)) (v := (.int u1)) (by rw [e213]; exact Ar214.1) (State.isArrayOf_alike hZ.alike Ar214.2.1) Ar214.2.2 hi214 ha214 (g := (mkF m 48 #[.val (.ref b), .val (.int (1 : Int32))] [(.int (1 : Int32)), (.ref b), (.int ((u0 &&& (255 : Int32)) <<< ((0 : Int32) &&& 31)))])) rfl rfl (hb hby own_d_jdk_52_5_48)) ?_
  show own_Go p e below _ (T213.setTop (mkF m 49 #[.val (.ref b), .val (.int (1 : Int32))] [(.int u1), (.int ((u0 &&& (255 : Int32)) <<< ((0 : Int32) &&& 31)))]))
  refine own_st (fun u_ k_ => XS.sipush X213.here hx rfl (hb hby own_d_jdk_52_5_49) k_) ?_
  show own_Go p e below _ (T213.setTop (mkF m 52 #[.val (.ref b), .val (.int (1 : Int32))] [(.int (255 : Int32)), (.int u1), (.int ((u0 &&& (255 : Int32)) <<< ((0 : Int32) &&& 31)))]))
  refine own_st (fun u_ k_ => XS.iand X213.here hx rfl (hb hby own_d_jdk_52_5_52) rfl k_) ?_
  show own_Go p e below _ (T213.setTop (mkF m 53 #[.val (.ref b), .val (.int (1 : Int32))] [(.int (u1 &&& (255 : Int32))), (.int ((u0 &&& (255 : Int32)) <<< ((0 : Int32) &&& 31)))]))
  have F215 := Sta.ext O0.2 hS.2.2.2.2
  obtain ⟨T216, X216, e216, st216⟩ := getS2 X213 hx hZ hown (host := "") (Or.inl (own_w hw 74 rfl)) Via.refl e213 F215 (g := (mkF m 53 #[.val (.ref b), .val (.int (1 : Int32))] [(.int (u1 &&& (255 : Int32))), (.int ((u0 &&& (255 : Int32)) <<< ((0 : Int32) &&& 31)))])) rfl (hb hby own_d_jdk_52_5_53)
  refine own_st (fun u_ k_ => st216 u_ k_) ?_
  show own_Go p e below _ (T216.setTop (mkF m 56 #[.val (.ref b), .val (.int (1 : Int32))] [(.int (8 : Int32)), (.int (u1 &&& (255 : Int32))), (.int ((u0 &&& (255 : Int32)) <<< ((0 : Int32) &&& 31)))]))
  refine own_st (fun u_ k_ => XS.ishl X216.here hx rfl (hb hby own_d_jdk_52_5_56) rfl k_) ?_
  show own_Go p e below _ (T216.setTop (mkF m 57 #[.val (.ref b), .val (.int (1 : Int32))] [(.int ((u1 &&& (255 : Int32)) <<< ((8 : Int32) &&& 31))), (.int ((u0 &&& (255 : Int32)) <<< ((0 : Int32) &&& 31)))]))
  refine own_st (fun u_ k_ => XS.ior X216.here hx rfl (hb hby own_d_jdk_52_5_57) rfl k_) ?_
  show own_Go p e below _ (T216.setTop (mkF m 58 #[.val (.ref b), .val (.int (1 : Int32))] [(.int (((u0 &&& (255 : Int32)) <<< ((0 : Int32) &&& 31)) ||| ((u1 &&& (255 : Int32)) <<< ((8 : Int32) &&& 31))))]))
  refine own_st (fun u_ k_ => XS.i2c X216.here hx rfl (hb hby own_d_jdk_52_5_58) rfl k_) ?_
  show own_Go p e below _ (T216.setTop (mkF m 59 #[.val (.ref b), .val (.int (1 : Int32))] [(.int ((((u0 &&& (255 : Int32)) <<< ((0 : Int32) &&& 31)) ||| ((u1 &&& (255 : Int32)) <<< ((8 : Int32) &&& 31))).toUInt32.toUInt16.toUInt32.toInt32))]))
  exact own_retX X216 hx hlk hret (own_narC _) (Or.inl ⟨rfl, by simp, _, rfl⟩) (hb hby own_d_jdk_52_5_59) (by decide) (by decide) (show QrmGC2_0 Z wcs b kb u0 u1 u2 u3 h0 n0 (some (.int ((((u0 &&& (255 : Int32)) <<< ((0 : Int32) &&& 31)) ||| ((u1 &&& (255 : Int32)) <<< ((8 : Int32) &&& 31))).toUInt32.toUInt16.toUInt32.toInt32))) T216.heap _ from (by rw [e216]; exact ⟨rfl, N0, rfl⟩))
theorem own_ef_rmPC2_1 (m : MethodId) (b : Addr) (cv : Int32)  : entryFrame m #[(.ref b), (.int (1 : Int32)), (.int cv)] 3 = mkF m 0 #[.val (.ref b), .val (.int (1 : Int32)), .val (.int cv)] [] := by first | (simp [entryFrame, mkF, argsToLocals, Value.category, maxLocals]; done) | rfl
def QrmPC2_1 (Z : State) (wcs : Int32) (b : Addr) (kb : ClassId) (cv : Int32) (u0 : Int32) (u1 : Int32) (u2 : Int32) (u3 : Int32) (h0 : Heap) (n0 : Nat) (v : Option Value) (h : Heap) (L : List Loc) : Prop := v = none ∧ Fr n0 L ∧ Keep h0 h [b] ∧ Exa Z h b "[B" ∧ Arv Z h b kb .byte (4 : Int32) [(.int u0), (.int u1), (.int ((cv >>> ((0 : Int32) &&& 31)).toInt8.toInt32)), (.int ((cv >>> ((8 : Int32) &&& 31)).toInt8.toInt32))] (.int (0 : Int32))
set_option maxRecDepth 65536 in
set_option maxHeartbeats 40000000 in
theorem rmPC2_1 (l : Launch) (Z : State) (a0 : Array Value) (hw : own_H a0 Z) (ws : List Jvm.Cond) (wcs : Int32) (hS : own_S Z wcs) (b : Addr) (kb : ClassId) (cv : Int32) (u0 : Int32) (u1 : Int32) (u2 : Int32) (u3 : Int32) (h0 : Heap) (n0 : Nat) (O0 : Old Z n0 h0) (Eb : Exa Z h0 b "[B") (gb : n0 ≤ b) (A2 : Arv Z h0 b kb .byte (4 : Int32) [(.int u0), (.int u1), (.int u2), (.int u3)] (.int (0 : Int32))) :
    own_Met l own_y_56 jdk_52_method_4_code 3 none ws ({ frames := 0, cells := 0, slots := 0, locals := 0 } : Room) Z h0 #[(.ref b), (.int (1 : Int32)), (.int cv)] (QrmPC2_1 Z wcs b kb cv u0 u1 u2 u3 h0 n0) := by
  refine own_body (plainFor_of_name own_pn_15) ?_
  intro p e s m below meth c s₁ hx hby hml hown hnm hret hlk hZ e0 X0
  have N0 := Fr.nil n0
  refine own_st (fun u_ k_ => castTop (own_ef_rmPC2_1 m b cv) k_) ?_
  show own_Go p e below _ (s₁.setTop (mkF m 0 #[.val (.ref b), .val (.int (1 : Int32)), .val (.int cv)] []))
  have F217 := Sta.ext O0.2 hS.2.2.1
  obtain ⟨T218, X218, e218, st218⟩ := getS2 X0 hx hZ hown (host := "") (Or.inl (own_w hw 72 rfl)) Via.refl e0 F217 (g := (mkF m 0 #[.val (.ref b), .val (.int (1 : Int32)), .val (.int cv)] [])) rfl (hb hby own_d_jdk_52_4_0)
  refine own_st (fun u_ k_ => st218 u_ k_) ?_
  show own_Go p e below _ (T218.setTop (mkF m 3 #[.val (.ref b), .val (.int (1 : Int32)), .val (.int cv)] [(.int (1 : Int32))]))
  refine own_st (fun u_ k_ => XS.ifYes X218.here hx rfl (pc0 := 3) (pc' := 28) rfl (hb hby own_d_jdk_52_4_3) rfl (XT.i0_ne_t (by decide)) (by decide) (by decide) k_) ?_
  show own_Go p e below _ (T218.setTop (mkF m 28 #[.val (.ref b), .val (.int (1 : Int32)), .val (.int cv)] []))
  refine own_st (fun u_ k_ => XS.iloadN X218.here hx rfl (hb hby own_d_jdk_52_4_28) rfl k_) ?_
  show own_Go p e below _ (T218.setTop (mkF m 29 #[.val (.ref b), .val (.int (1 : Int32)), .val (.int cv)] [(.int (1 : Int32))]))
  refine own_st (fun u_ k_ => XS.iconst X218.here hx rfl (hb hby own_d_jdk_52_4_29) k_) ?_
  show own_Go p e below _ (T218.setTop (mkF m 30 #[.val (.ref b), .val (.int (1 : Int32)), .val (.int cv)] [(.int (1 : Int32)), (.int (1 : Int32))]))
  refine own_st (fun u_ k_ => XS.ishl X218.here hx rfl (hb hby own_d_jdk_52_4_30) rfl k_) ?_
  show own_Go p e below _ (T218.setTop (mkF m 31 #[.val (.ref b), .val (.int (1 : Int32)), .val (.int cv)] [(.int (2 : Int32))]))
  refine own_st (fun u_ k_ => XS.istoreN X218.here hx rfl (hb hby own_d_jdk_52_4_31) rfl (l' := #[.val (.ref b), .val (.int (2 : Int32)), .val (.int cv)]) rfl k_) ?_
  show own_Go p e below _ (T218.setTop (mkF m 32 #[.val (.ref b), .val (.int (2 : Int32)), .val (.int cv)] []))
  refine own_st (fun u_ k_ => XS.aloadN X218.here hx rfl (hb hby own_d_jdk_52_4_32) rfl rfl k_) ?_
  show own_Go p e below _ (T218.setTop (mkF m 33 #[.val (.ref b), .val (.int (2 : Int32)), .val (.int cv)] [(.ref b)]))
  refine own_st (fun u_ k_ => XS.iloadN X218.here hx rfl (hb hby own_d_jdk_52_4_33) rfl k_) ?_
  show own_Go p e below _ (T218.setTop (mkF m 34 #[.val (.ref b), .val (.int (2 : Int32)), .val (.int cv)] [(.int (2 : Int32)), (.ref b)]))
  refine own_st (fun u_ k_ => XS.iinc X218.here hx rfl (hb hby own_d_jdk_52_4_34) rfl (l' := #[.val (.ref b), .val (.int (3 : Int32)), .val (.int cv)]) rfl k_) ?_
  show own_Go p e below _ (T218.setTop (mkF m 37 #[.val (.ref b), .val (.int (3 : Int32)), .val (.int cv)] [(.int (2 : Int32)), (.ref b)]))
  refine own_st (fun u_ k_ => XS.iloadN X218.here hx rfl (hb hby own_d_jdk_52_4_37) rfl k_) ?_
  show own_Go p e below _ (T218.setTop (mkF m 38 #[.val (.ref b), .val (.int (3 : Int32)), .val (.int cv)] [(.int cv), (.int (2 : Int32)), (.ref b)]))
  have F219 := Sta.ext O0.2 hS.2.2.2.1
  obtain ⟨T220, X220, e220, st220⟩ := getS2 X218 hx hZ hown (host := "") (Or.inl (own_w hw 73 rfl)) Via.refl e218 F219 (g := (mkF m 38 #[.val (.ref b), .val (.int (3 : Int32)), .val (.int cv)] [(.int cv), (.int (2 : Int32)), (.ref b)])) rfl (hb hby own_d_jdk_52_4_38)
  refine own_st (fun u_ k_ => st220 u_ k_) ?_
  show own_Go p e below _ (T220.setTop (mkF m 41 #[.val (.ref b), .val (.int (3 : Int32)), .val (.int cv)] [(.int (0 : Int32)), (.int cv), (.int (2 : Int32)), (.ref b)]))
  refine own_st (fun u_ k_ => XS.ishr X220.here hx rfl (hb hby own_d_jdk_52_4_41) rfl k_) ?_
  show own_Go p e below _ (T220.setTop (mkF m 42 #[.val (.ref b), .val (.int (3 : Int32)), .val (.int cv)] [(.int (cv >>> ((0 : Int32) &&& 31))), (.int (2 : Int32)), (.ref b)]))
  refine own_st (fun u_ k_ => XS.i2b X220.here hx rfl (hb hby own_d_jdk_52_4_42) rfl k_) ?_
  show own_Go p e below _ (T220.setTop (mkF m 43 #[.val (.ref b), .val (.int (3 : Int32)), .val (.int cv)] [(.int ((cv >>> ((0 : Int32) &&& 31)).toInt8.toInt32)), (.int (2 : Int32)), (.ref b)]))
  obtain ⟨cl221, Ar221, q221, S221, N221, H221, G221⟩ := id A2
  have hi221 : ¬ ((2 : Int32) < 0 ∨ cl221.slots.size ≤ ((2 : Int32)).toNatClampNeg) := inb_of S221 ⟨by decide, by decide⟩
  obtain ⟨T222, h222, X222, e222, W222, st222⟩ := stB X220 hx hZ e220 Ar221 (j := (2 : Int32)) hi221 (g := (mkF m 43 #[.val (.ref b), .val (.int (3 : Int32)), .val (.int cv)] [(.int ((cv >>> ((0 : Int32) &&& 31)).toInt8.toInt32)), (.int (2 : Int32)), (.ref b)])) rfl rfl (hb hby own_d_jdk_52_4_43)
  rw [own_bb] at W222
  have N222 := Fr.snoc X222 N0 gb
  have V222 : Arv Z h222 b kb .byte (4 : Int32) [(.int u0), (.int u1), (.int ((cv >>> ((0 : Int32) &&& 31)).toInt8.toInt32)), (.int u3)] (.int (0 : Int32)) := Arv.set Ar221 q221 S221 N221 H221 G221 (fits_nar_byte _) W222 2 rfl (Nat.le_of_ble_eq_true rfl)
  refine own_st (fun u_ k_ => st222 u_ k_) ?_
  show own_Go p e below _ (T222.setTop (mkF m 44 #[.val (.ref b), .val (.int (3 : Int32)), .val (.int cv)] []))
  refine own_st (fun u_ k_ => XS.aloadN X222.here hx rfl (hb hby own_d_jdk_52_4_44) rfl rfl k_) ?_
  show own_Go p e below _ (T222.setTop (mkF m 45 #[.val (.ref b), .val (.int (3 : Int32)), .val (.int cv)] [(.ref b)]))
  refine own_st (fun u_ k_ => XS.iloadN X222.here hx rfl (hb hby own_d_jdk_52_4_45) rfl k_) ?_
  show own_Go p e below _ (T222.setTop (mkF m 46 #[.val (.ref b), .val (.int (3 : Int32)), .val (.int cv)] [(.int (3 : Int32)), (.ref b)]))
  refine own_st (fun u_ k_ => XS.iloadN X222.here hx rfl (hb hby own_d_jdk_52_4_46) rfl k_) ?_
  show own_Go p e below _ (T222.setTop (mkF m 47 #[.val (.ref b), .val (.int (3 : Int32)), .val (.int cv)] [(.int cv), (.int (3 : Int32)), (.ref b)]))
  have O223 : Old Z n0 h222 := O0.wr W222 gb
  have F224 := Sta.ext O223.2 hS.2.2.2.2
  obtain ⟨T225, X225, e225, st225⟩ := getS2 X222 hx hZ hown (host := "") (Or.inl (own_w hw 74 rfl)) Via.refl e222 F224 (g := (mkF m 47 #[.val (.ref b), .val (.int (3 : Int32)), .val (.int cv)] [(.int cv), (.int (3 : Int32)), (.ref b)])) rfl (hb hby own_d_jdk_52_4_47)
  refine own_st (fun u_ k_ => st225 u_ k_) ?_
  show own_Go p e below _ (T225.setTop (mkF m 50 #[.val (.ref b), .val (.int (3 : Int32)), .val (.int cv)] [(.int (8 : Int32)), (.int cv), (.int (3 : Int32)), (.ref b)]))
  refine own_st (fun u_ k_ => XS.ishr X225.here hx rfl (hb hby own_d_jdk_52_4_50) rfl k_) ?_
  show own_Go p e below _ (T225.setTop (mkF m 51 #[.val (.ref b), .val (.int (3 : Int32)), .val (.int cv)] [(.int (cv >>> ((8 : Int32) &&& 31))), (.int (3 : Int32)), (.ref b)]))
  refine own_st (fun u_ k_ => XS.i2b X225.here hx rfl (hb hby own_d_jdk_52_4_51) rfl k_) ?_
  show own_Go p e below _ (T225.setTop (mkF m 52 #[.val (.ref b), .val (.int (3 : Int32)), .val (.int cv)] [(.int ((cv >>> ((8 : Int32) &&& 31)).toInt8.toInt32)), (.int (3 : Int32)), (.ref b)]))
  obtain ⟨cl226, Ar226, q226, S226, N226, H226, G226⟩ := id V222
  have hi226 : ¬ ((3 : Int32) < 0 ∨ cl226.slots.size ≤ ((3 : Int32)).toNatClampNeg) := inb_of S226 ⟨by decide, by decide⟩
  obtain ⟨T227, h227, X227, e227, W227, st227⟩ := stB X225 hx hZ e225 Ar226 (j := (3 : Int32)) hi226 (g := (mkF m 52 #[.val (.ref b), .val (.int (3 : Int32)), .val (.int cv)] [(.int ((cv >>> ((8 : Int32) &&& 31)).toInt8.toInt32)), (.int (3 : Int32)), (.ref b)])) rfl rfl (hb hby own_d_jdk_52_4_52)
  rw [own_bb] at W227
  have N227 := Fr.snoc X227 N222 gb
  have V227 : Arv Z h227 b kb .byte (4 : Int32) [(.int u0), (.int u1), (.int ((cv >>> ((0 : Int32) &&& 31)).toInt8.toInt32)), (.int ((cv >>> ((8 : Int32) &&& 31)).toInt8.toInt32))] (.int (0 : Int32)) := Arv.set Ar226 q226 S226 N226 H226 G226 (fits_nar_byte _) W227 3 rfl (Nat.le_of_ble_eq_true rfl)
  refine own_st (fun u_ k_ => st227 u_ k_) ?_
  show own_Go p e below _ (T227.setTop (mkF m 53 #[.val (.ref b), .val (.int (3 : Int32)), .val (.int cv)] []))
  have K228 : Keep h0 h222 [b] := (Keep.refl h0 [b]).wr W222 (Or.inl (List.mem_of_getElem? (i := 0) rfl))
  have K229 : Keep h0 h227 [b] := K228.wr W227 (Or.inl (List.mem_of_getElem? (i := 0) rfl))
  have F230 := (Exa.wr W227 (Exa.wr W222 Eb))
  exact own_retV X227 hx hlk hret (hb hby own_d_jdk_52_4_53) (by decide) (by decide) (show QrmPC2_1 Z wcs b kb cv u0 u1 u2 u3 h0 n0 none T227.heap _ from (by rw [e227]; exact ⟨rfl, N227, K229, F230, V227⟩))
theorem own_ef_rmGC2_1 (m : MethodId) (b : Addr)  : entryFrame m #[(.ref b), (.int (1 : Int32))] 2 = mkF m 0 #[.val (.ref b), .val (.int (1 : Int32))] [] := by first | (simp [entryFrame, mkF, argsToLocals, Value.category, maxLocals]; done) | rfl
def QrmGC2_1 (Z : State) (wcs : Int32) (b : Addr) (kb : ClassId) (u0 : Int32) (u1 : Int32) (u2 : Int32) (u3 : Int32) (h0 : Heap) (n0 : Nat) (v : Option Value) (h : Heap) (L : List Loc) : Prop := v = some (.int ((((u2 &&& (255 : Int32)) <<< ((0 : Int32) &&& 31)) ||| ((u3 &&& (255 : Int32)) <<< ((8 : Int32) &&& 31))).toUInt32.toUInt16.toUInt32.toInt32)) ∧ Fr n0 L ∧ h = h0
set_option maxRecDepth 65536 in
set_option maxHeartbeats 40000000 in
theorem rmGC2_1 (l : Launch) (Z : State) (a0 : Array Value) (hw : own_H a0 Z) (ws : List Jvm.Cond) (wcs : Int32) (hS : own_S Z wcs) (b : Addr) (kb : ClassId) (u0 : Int32) (u1 : Int32) (u2 : Int32) (u3 : Int32) (h0 : Heap) (n0 : Nat) (O0 : Old Z n0 h0) (A2 : Arv Z h0 b kb .byte (4 : Int32) [(.int u0), (.int u1), (.int u2), (.int u3)] (.int (0 : Int32))) :
    own_Met l own_y_81 jdk_52_method_5_code 2 (some .char) ws ({ frames := 0, cells := 0, slots := 0, locals := 0 } : Room) Z h0 #[(.ref b), (.int (1 : Int32))] (QrmGC2_1 Z wcs b kb u0 u1 u2 u3 h0 n0) := by
  refine own_body (plainFor_of_name own_pn_15) ?_
  intro p e s m below meth c s₁ hx hby hml hown hnm hret hlk hZ e0 X0
  have N0 := Fr.nil n0
  refine own_st (fun u_ k_ => castTop (own_ef_rmGC2_1 m b) k_) ?_
  show own_Go p e below _ (s₁.setTop (mkF m 0 #[.val (.ref b), .val (.int (1 : Int32))] []))
  have F231 := Sta.ext O0.2 hS.2.2.1
  obtain ⟨T232, X232, e232, st232⟩ := getS2 X0 hx hZ hown (host := "") (Or.inl (own_w hw 72 rfl)) Via.refl e0 F231 (g := (mkF m 0 #[.val (.ref b), .val (.int (1 : Int32))] [])) rfl (hb hby own_d_jdk_52_5_0)
  refine own_st (fun u_ k_ => st232 u_ k_) ?_
  show own_Go p e below _ (T232.setTop (mkF m 3 #[.val (.ref b), .val (.int (1 : Int32))] [(.int (1 : Int32))]))
  refine own_st (fun u_ k_ => XS.ifYes X232.here hx rfl (pc0 := 3) (pc' := 28) rfl (hb hby own_d_jdk_52_5_3) rfl (XT.i0_ne_t (by decide)) (by decide) (by decide) k_) ?_
  show own_Go p e below _ (T232.setTop (mkF m 28 #[.val (.ref b), .val (.int (1 : Int32))] []))
  refine own_st (fun u_ k_ => XS.iloadN X232.here hx rfl (hb hby own_d_jdk_52_5_28) rfl k_) ?_
  show own_Go p e below _ (T232.setTop (mkF m 29 #[.val (.ref b), .val (.int (1 : Int32))] [(.int (1 : Int32))]))
  refine own_st (fun u_ k_ => XS.iconst X232.here hx rfl (hb hby own_d_jdk_52_5_29) k_) ?_
  show own_Go p e below _ (T232.setTop (mkF m 30 #[.val (.ref b), .val (.int (1 : Int32))] [(.int (1 : Int32)), (.int (1 : Int32))]))
  refine own_st (fun u_ k_ => XS.ishl X232.here hx rfl (hb hby own_d_jdk_52_5_30) rfl k_) ?_
  show own_Go p e below _ (T232.setTop (mkF m 31 #[.val (.ref b), .val (.int (1 : Int32))] [(.int (2 : Int32))]))
  refine own_st (fun u_ k_ => XS.istoreN X232.here hx rfl (hb hby own_d_jdk_52_5_31) rfl (l' := #[.val (.ref b), .val (.int (2 : Int32))]) rfl k_) ?_
  show own_Go p e below _ (T232.setTop (mkF m 32 #[.val (.ref b), .val (.int (2 : Int32))] []))
  refine own_st (fun u_ k_ => XS.aloadN X232.here hx rfl (hb hby own_d_jdk_52_5_32) rfl rfl k_) ?_
  show own_Go p e below _ (T232.setTop (mkF m 33 #[.val (.ref b), .val (.int (2 : Int32))] [(.ref b)]))
  refine own_st (fun u_ k_ => XS.iloadN X232.here hx rfl (hb hby own_d_jdk_52_5_33) rfl k_) ?_
  show own_Go p e below _ (T232.setTop (mkF m 34 #[.val (.ref b), .val (.int (2 : Int32))] [(.int (2 : Int32)), (.ref b)]))
  refine own_st (fun u_ k_ => XS.iinc X232.here hx rfl (hb hby own_d_jdk_52_5_34) rfl (l' := #[.val (.ref b), .val (.int (3 : Int32))]) rfl k_) ?_
  show own_Go p e below _ (T232.setTop (mkF m 37 #[.val (.ref b), .val (.int (3 : Int32))] [(.int (2 : Int32)), (.ref b)]))
  obtain ⟨cl233, Ar233, q233, S233, N233, H233, G233⟩ := id A2
  have hi233 : ¬ ((2 : Int32) < 0 ∨ cl233.slots.size ≤ ((2 : Int32)).toNatClampNeg) := inb_of S233 ⟨by decide, by decide⟩
  have ha233 : cl233.slots[((2 : Int32)).toNatClampNeg]? = some (.int u2) := H233.at hi233 rfl
  refine own_st (X232.baloadBytes hx (j := (2 : Int32)) (v := (.int u2)) (by rw [e232]; exact Ar233.1) (State.isArrayOf_alike hZ.alike Ar233.2.1) Ar233.2.2 hi233 ha233 (g := (mkF m 37 #[.val (.ref b), .val (.int (3 : Int32))] [(.int (2 : Int32)), (.ref b)])) rfl rfl (hb hby own_d_jdk_52_5_37)) ?_
  show own_Go p e below _ (T232.setTop (mkF m 38 #[.val (.ref b), .val (.int (3 : Int32))] [(.int u2)]))
  refine own_st (fun u_ k_ => XS.sipush X232.here hx rfl (hb hby own_d_jdk_52_5_38) k_) ?_
  show own_Go p e below _ (T232.setTop (mkF m 41 #[.val (.ref b), .val (.int (3 : Int32))] [(.int (255 : Int32)), (.int u2)]))
  refine own_st (fun u_ k_ => XS.iand X232.here hx rfl (hb hby own_d_jdk_52_5_41) rfl k_) ?_
  show own_Go p e below _ (T232.setTop (mkF m 42 #[.val (.ref b), .val (.int (3 : Int32))] [(.int (u2 &&& (255 : Int32)))]))
  have F234 := Sta.ext O0.2 hS.2.2.2.1
  obtain ⟨T235, X235, e235, st235⟩ := getS2 X232 hx hZ hown (host := "") (Or.inl (own_w hw 73 rfl)) Via.refl e232 F234 (g := (mkF m 42 #[.val (.ref b), .val (.int (3 : Int32))] [(.int (u2 &&& (255 : Int32)))])) rfl (hb hby own_d_jdk_52_5_42)
  refine own_st (fun u_ k_ => st235 u_ k_) ?_
  show own_Go p e below _ (T235.setTop (mkF m 45 #[.val (.ref b), .val (.int (3 : Int32))] [(.int (0 : Int32)), (.int (u2 &&& (255 : Int32)))]))
  refine own_st (fun u_ k_ => XS.ishl X235.here hx rfl (hb hby own_d_jdk_52_5_45) rfl k_) ?_
  show own_Go p e below _ (T235.setTop (mkF m 46 #[.val (.ref b), .val (.int (3 : Int32))] [(.int ((u2 &&& (255 : Int32)) <<< ((0 : Int32) &&& 31)))]))
  refine own_st (fun u_ k_ => XS.aloadN X235.here hx rfl (hb hby own_d_jdk_52_5_46) rfl rfl k_) ?_
  show own_Go p e below _ (T235.setTop (mkF m 47 #[.val (.ref b), .val (.int (3 : Int32))] [(.ref b), (.int ((u2 &&& (255 : Int32)) <<< ((0 : Int32) &&& 31)))]))
  refine own_st (fun u_ k_ => XS.iloadN X235.here hx rfl (hb hby own_d_jdk_52_5_47) rfl k_) ?_
  show own_Go p e below _ (T235.setTop (mkF m 48 #[.val (.ref b), .val (.int (3 : Int32))] [(.int (3 : Int32)), (.ref b), (.int ((u2 &&& (255 : Int32)) <<< ((0 : Int32) &&& 31)))]))
  obtain ⟨cl236, Ar236, q236, S236, N236, H236, G236⟩ := id A2
  have hi236 : ¬ ((3 : Int32) < 0 ∨ cl236.slots.size ≤ ((3 : Int32)).toNatClampNeg) := inb_of S236 ⟨by decide, by decide⟩
  have ha236 : cl236.slots[((3 : Int32)).toNatClampNeg]? = some (.int u3) := H236.at hi236 rfl
  refine own_st (X235.baloadBytes hx (j := (3 : Int32)) (v := (.int u3)) (by rw [e235]; exact Ar236.1) (State.isArrayOf_alike hZ.alike Ar236.2.1) Ar236.2.2 hi236 ha236 (g := (mkF m 48 #[.val (.ref b), .val (.int (3 : Int32))] [(.int (3 : Int32)), (.ref b), (.int ((u2 &&& (255 : Int32)) <<< ((0 : Int32) &&& 31)))])) rfl rfl (hb hby own_d_jdk_52_5_48)) ?_
  show own_Go p e below _ (T235.setTop (mkF m 49 #[.val (.ref b), .val (.int (3 : Int32))] [(.int u3), (.int ((u2 &&& (255 : Int32)) <<< ((0 : Int32) &&& 31)))]))
  refine own_st (fun u_ k_ => XS.sipush X235.here hx rfl (hb hby own_d_jdk_52_5_49) k_) ?_
  show own_Go p e below _ (T235.setTop (mkF m 52 #[.val (.ref b), .val (.int (3 : Int32))] [(.int (255 : Int32)), (.int u3), (.int ((u2 &&& (255 : Int32)) <<< ((0 : Int32) &&& 31)))]))
  refine own_st (fun u_ k_ => XS.iand X235.here hx rfl (hb hby own_d_jdk_52_5_52) rfl k_) ?_
  show own_Go p e below _ (T235.setTop (mkF m 53 #[.val (.ref b), .val (.int (3 : Int32))] [(.int (u3 &&& (255 : Int32))), (.int ((u2 &&& (255 : Int32)) <<< ((0 : Int32) &&& 31)))]))
  have F237 := Sta.ext O0.2 hS.2.2.2.2
  obtain ⟨T238, X238, e238, st238⟩ := getS2 X235 hx hZ hown (host := "") (Or.inl (own_w hw 74 rfl)) Via.refl e235 F237 (g := (mkF m 53 #[.val (.ref b), .val (.int (3 : Int32))] [(.int (u3 &&& (255 : Int32))), (.int ((u2 &&& (255 : Int32)) <<< ((0 : Int32) &&& 31)))])) rfl (hb hby own_d_jdk_52_5_53)
  refine own_st (fun u_ k_ => st238 u_ k_) ?_
  show own_Go p e below _ (T238.setTop (mkF m 56 #[.val (.ref b), .val (.int (3 : Int32))] [(.int (8 : Int32)), (.int (u3 &&& (255 : Int32))), (.int ((u2 &&& (255 : Int32)) <<< ((0 : Int32) &&& 31)))]))
  refine own_st (fun u_ k_ => XS.ishl X238.here hx rfl (hb hby own_d_jdk_52_5_56) rfl k_) ?_
  show own_Go p e below _ (T238.setTop (mkF m 57 #[.val (.ref b), .val (.int (3 : Int32))] [(.int ((u3 &&& (255 : Int32)) <<< ((8 : Int32) &&& 31))), (.int ((u2 &&& (255 : Int32)) <<< ((0 : Int32) &&& 31)))]))
  refine own_st (fun u_ k_ => XS.ior X238.here hx rfl (hb hby own_d_jdk_52_5_57) rfl k_) ?_
  show own_Go p e below _ (T238.setTop (mkF m 58 #[.val (.ref b), .val (.int (3 : Int32))] [(.int (((u2 &&& (255 : Int32)) <<< ((0 : Int32) &&& 31)) ||| ((u3 &&& (255 : Int32)) <<< ((8 : Int32) &&& 31))))]))
  refine own_st (fun u_ k_ => XS.i2c X238.here hx rfl (hb hby own_d_jdk_52_5_58) rfl k_) ?_
  show own_Go p e below _ (T238.setTop (mkF m 59 #[.val (.ref b), .val (.int (3 : Int32))] [(.int ((((u2 &&& (255 : Int32)) <<< ((0 : Int32) &&& 31)) ||| ((u3 &&& (255 : Int32)) <<< ((8 : Int32) &&& 31))).toUInt32.toUInt16.toUInt32.toInt32))]))
  exact own_retX X238 hx hlk hret (own_narC _) (Or.inl ⟨rfl, by simp, _, rfl⟩) (hb hby own_d_jdk_52_5_59) (by decide) (by decide) (show QrmGC2_1 Z wcs b kb u0 u1 u2 u3 h0 n0 (some (.int ((((u2 &&& (255 : Int32)) <<< ((0 : Int32) &&& 31)) ||| ((u3 &&& (255 : Int32)) <<< ((8 : Int32) &&& 31))).toUInt32.toUInt16.toUInt32.toInt32))) T238.heap _ from (by rw [e238]; exact ⟨rfl, N0, rfl⟩))
theorem own_ef_rmTB2 (m : MethodId) (a : Addr)  : entryFrame m #[(.ref a), (.int (0 : Int32)), (.int (2 : Int32))] 5 = mkF m 0 #[.val (.ref a), .val (.int (0 : Int32)), .val (.int (2 : Int32)), .unset, .unset] [] := by first | (simp [entryFrame, mkF, argsToLocals, Value.category, maxLocals]; done) | rfl
def QrmTB2 (Z : State) (wcs : Int32) (a : Addr) (ka : ClassId) (v0 : Int32) (v1 : Int32) (h0 : Heap) (n0 : Nat) (v : Option Value) (h : Heap) (L : List Loc) : Prop := ∃ r : Addr, ∃ kr : ClassId, v = some (.ref r) ∧ Fr n0 L ∧ Keep h0 h [] ∧ h0.size ≤ r ∧ Exa Z h r "[B" ∧ Arv Z h r kr .byte (4 : Int32) [(.int ((v0 >>> ((0 : Int32) &&& 31)).toInt8.toInt32)), (.int ((v0 >>> ((8 : Int32) &&& 31)).toInt8.toInt32)), (.int ((v1 >>> ((0 : Int32) &&& 31)).toInt8.toInt32)), (.int ((v1 >>> ((8 : Int32) &&& 31)).toInt8.toInt32))] (.int (0 : Int32))
set_option maxRecDepth 65536 in
set_option maxHeartbeats 40000000 in
theorem rmTB2 (l : Launch) (Z : State) (a0 : Array Value) (hw : own_H a0 Z) (ws : List Jvm.Cond) (wcs : Int32) (hS : own_S Z wcs) (a : Addr) (ka : ClassId) (v0 : Int32) (v1 : Int32) (h0 : Heap) (n0 : Nat) (O0 : Old Z n0 h0) (Ea : Exa Z h0 a "[C") (A1 : Arv Z h0 a ka .char (2 : Int32) [(.int v0), (.int v1)] (.int (0 : Int32))) :
    own_Met l own_y_104 jdk_52_method_14_code 5 (some (.array .byte)) ws ({ frames := 2, cells := 1, slots := 4, locals := 24 } : Room) Z h0 #[(.ref a), (.int (0 : Int32)), (.int (2 : Int32))] (QrmTB2 Z wcs a ka v0 v1 h0 n0) := by
  refine own_body (plainFor_of_name own_pn_15) ?_
  intro p e s m below meth c s₁ hx hby hml hown hnm hret hlk hZ e0 X0
  have N0 := Fr.nil n0
  refine own_st (fun u_ k_ => castTop (own_ef_rmTB2 m a) k_) ?_
  show own_Go p e below _ (s₁.setTop (mkF m 0 #[.val (.ref a), .val (.int (0 : Int32)), .val (.int (2 : Int32)), .unset, .unset] []))
  refine own_st (fun u_ k_ => XS.iloadN X0.here hx rfl (hb hby own_d_jdk_52_14_0) rfl k_) ?_
  show own_Go p e below _ (s₁.setTop (mkF m 1 #[.val (.ref a), .val (.int (0 : Int32)), .val (.int (2 : Int32)), .unset, .unset] [(.int (2 : Int32))]))
  obtain ⟨T239, v239, L239, X239, hQ239, st239⟩ := own_callS X0 hx hZ (y := own_y_33) hown (own_w hw 62 rfl) (own_w hw 63 rfl) (own_w hw 18 rfl) (own_w hw 64 rfl) own_lm_28 (rmNB2 l Z a0 hw [] wcs hS  h0 n0 O0 ) e0 own_pd_85 (argsL := [(.int (2 : Int32))]) (rest := []) rfl rfl (g := (mkF m 1 #[.val (.ref a), .val (.int (0 : Int32)), .val (.int (2 : Int32)), .unset, .unset] [(.int (2 : Int32))])) rfl (by rw [hml]; rfl) rfl (hb hby own_d_jdk_52_14_1) (W := 0) rfl (by decide) (by decide) (by decide) (by decide)
  obtain ⟨r_240, kr_241, rfl, M239, K239, z242, F243, F244⟩ := hQ239
  have N239 := Fr.app N0 M239
  refine own_st (fun u_ k_ => st239 u_ k_) ?_
  show own_Go p e below _ (T239.setTop (mkF m 4 #[.val (.ref a), .val (.int (0 : Int32)), .val (.int (2 : Int32)), .unset, .unset] [(.ref r_240)]))
  refine own_st (fun u_ k_ => XS.astoreN X239.here hx rfl (hb hby own_d_jdk_52_14_4) rfl rfl (l' := #[.val (.ref a), .val (.int (0 : Int32)), .val (.int (2 : Int32)), .val (.ref r_240), .unset]) rfl k_) ?_
  show own_Go p e below _ (T239.setTop (mkF m 5 #[.val (.ref a), .val (.int (0 : Int32)), .val (.int (2 : Int32)), .val (.ref r_240), .unset] []))
  refine own_st (fun u_ k_ => XS.iconst X239.here hx rfl (hb hby own_d_jdk_52_14_5) k_) ?_
  show own_Go p e below _ (T239.setTop (mkF m 6 #[.val (.ref a), .val (.int (0 : Int32)), .val (.int (2 : Int32)), .val (.ref r_240), .unset] [(.int (0 : Int32))]))
  refine own_st (fun u_ k_ => XS.istore X239.here hx rfl (hb hby own_d_jdk_52_14_6) rfl (l' := #[.val (.ref a), .val (.int (0 : Int32)), .val (.int (2 : Int32)), .val (.ref r_240), .val (.int (0 : Int32))]) rfl k_) ?_
  show own_Go p e below _ (T239.setTop (mkF m 8 #[.val (.ref a), .val (.int (0 : Int32)), .val (.int (2 : Int32)), .val (.ref r_240), .val (.int (0 : Int32))] []))
  refine own_st (fun u_ k_ => XS.iload X239.here hx rfl (hb hby own_d_jdk_52_14_8) rfl k_) ?_
  show own_Go p e below _ (T239.setTop (mkF m 10 #[.val (.ref a), .val (.int (0 : Int32)), .val (.int (2 : Int32)), .val (.ref r_240), .val (.int (0 : Int32))] [(.int (0 : Int32))]))
  refine own_st (fun u_ k_ => XS.iloadN X239.here hx rfl (hb hby own_d_jdk_52_14_10) rfl k_) ?_
  show own_Go p e below _ (T239.setTop (mkF m 11 #[.val (.ref a), .val (.int (0 : Int32)), .val (.int (2 : Int32)), .val (.ref r_240), .val (.int (0 : Int32))] [(.int (2 : Int32)), (.int (0 : Int32))]))
  refine own_st (fun u_ k_ => XS.icmpNo X239.here hx rfl (hb hby own_d_jdk_52_14_11) rfl (XT.ii_ge_f (by decide)) k_) ?_
  show own_Go p e below _ (T239.setTop (mkF m 14 #[.val (.ref a), .val (.int (0 : Int32)), .val (.int (2 : Int32)), .val (.ref r_240), .val (.int (0 : Int32))] []))
  refine own_st (fun u_ k_ => XS.aloadN X239.here hx rfl (hb hby own_d_jdk_52_14_14) rfl rfl k_) ?_
  show own_Go p e below _ (T239.setTop (mkF m 15 #[.val (.ref a), .val (.int (0 : Int32)), .val (.int (2 : Int32)), .val (.ref r_240), .val (.int (0 : Int32))] [(.ref r_240)]))
  refine own_st (fun u_ k_ => XS.iload X239.here hx rfl (hb hby own_d_jdk_52_14_15) rfl k_) ?_
  show own_Go p e below _ (T239.setTop (mkF m 17 #[.val (.ref a), .val (.int (0 : Int32)), .val (.int (2 : Int32)), .val (.ref r_240), .val (.int (0 : Int32))] [(.int (0 : Int32)), (.ref r_240)]))
  refine own_st (fun u_ k_ => XS.aloadN X239.here hx rfl (hb hby own_d_jdk_52_14_17) rfl rfl k_) ?_
  show own_Go p e below _ (T239.setTop (mkF m 18 #[.val (.ref a), .val (.int (0 : Int32)), .val (.int (2 : Int32)), .val (.ref r_240), .val (.int (0 : Int32))] [(.ref a), (.int (0 : Int32)), (.ref r_240)]))
  refine own_st (fun u_ k_ => XS.iloadN X239.here hx rfl (hb hby own_d_jdk_52_14_18) rfl k_) ?_
  show own_Go p e below _ (T239.setTop (mkF m 19 #[.val (.ref a), .val (.int (0 : Int32)), .val (.int (2 : Int32)), .val (.ref r_240), .val (.int (0 : Int32))] [(.int (0 : Int32)), (.ref a), (.int (0 : Int32)), (.ref r_240)]))
  have F245 := (A1.keep K239 nin0)
  obtain ⟨cl246, Ar246, q246, S246, N246, H246, G246⟩ := id F245
  have hi246 : ¬ ((0 : Int32) < 0 ∨ cl246.slots.size ≤ ((0 : Int32)).toNatClampNeg) := inb_of S246 ⟨by decide, by decide⟩
  have ha246 : cl246.slots[((0 : Int32)).toNatClampNeg]? = some (.int v0) := H246.at hi246 rfl
  refine own_st (X239.caload hx (j := (0 : Int32)) (v := (.int v0)) Ar246.1 (State.isArrayOf_alike hZ.alike Ar246.2.1) Ar246.2.2 hi246 ha246 (g := (mkF m 19 #[.val (.ref a), .val (.int (0 : Int32)), .val (.int (2 : Int32)), .val (.ref r_240), .val (.int (0 : Int32))] [(.int (0 : Int32)), (.ref a), (.int (0 : Int32)), (.ref r_240)])) rfl rfl (hb hby own_d_jdk_52_14_19)) ?_
  show own_Go p e below _ (T239.setTop (mkF m 20 #[.val (.ref a), .val (.int (0 : Int32)), .val (.int (2 : Int32)), .val (.ref r_240), .val (.int (0 : Int32))] [(.int v0), (.int (0 : Int32)), (.ref r_240)]))
  have g247 : n0 ≤ r_240 := Nat.le_trans (own_nl O0) z242
  have O249 : Old Z n0 T239.heap := O0.keep K239 all0
  obtain ⟨T248, v248, L248, X248, hQ248, st248⟩ := own_callS X239 hx hZ (y := own_y_56) hown (own_w hw 69 rfl) (own_w hw 70 rfl) (own_w hw 18 rfl) (own_w hw 71 rfl) own_lm_28 (rmPC2_0 l Z a0 hw [] wcs hS r_240 kr_241 v0 (0 : Int32) (0 : Int32) (0 : Int32) (0 : Int32) T239.heap n0 O249 F243 g247 F244) rfl own_pd_98 (argsL := [(.ref r_240), (.int (0 : Int32)), (.int v0)]) (rest := []) rfl rfl (g := (mkF m 20 #[.val (.ref a), .val (.int (0 : Int32)), .val (.int (2 : Int32)), .val (.ref r_240), .val (.int (0 : Int32))] [(.int v0), (.int (0 : Int32)), (.ref r_240)])) rfl (by rw [hml]; rfl) rfl (hb hby own_d_jdk_52_14_20) (W := 0) rfl (by decide) (by decide) (by decide) (by decide)
  obtain ⟨rfl, M248, K248, F250, F251⟩ := hQ248
  have N248 := Fr.app N239 M248
  refine own_st (fun u_ k_ => st248 u_ k_) ?_
  show own_Go p e below _ (T248.setTop (mkF m 23 #[.val (.ref a), .val (.int (0 : Int32)), .val (.int (2 : Int32)), .val (.ref r_240), .val (.int (0 : Int32))] []))
  refine own_st (fun u_ k_ => XS.iinc X248.here hx rfl (hb hby own_d_jdk_52_14_23) rfl (l' := #[.val (.ref a), .val (.int (1 : Int32)), .val (.int (2 : Int32)), .val (.ref r_240), .val (.int (0 : Int32))]) rfl k_) ?_
  show own_Go p e below _ (T248.setTop (mkF m 26 #[.val (.ref a), .val (.int (1 : Int32)), .val (.int (2 : Int32)), .val (.ref r_240), .val (.int (0 : Int32))] []))
  refine own_st (fun u_ k_ => XS.iinc X248.here hx rfl (hb hby own_d_jdk_52_14_26) rfl (l' := #[.val (.ref a), .val (.int (1 : Int32)), .val (.int (2 : Int32)), .val (.ref r_240), .val (.int (1 : Int32))]) rfl k_) ?_
  show own_Go p e below _ (T248.setTop (mkF m 29 #[.val (.ref a), .val (.int (1 : Int32)), .val (.int (2 : Int32)), .val (.ref r_240), .val (.int (1 : Int32))] []))
  refine own_st (fun u_ k_ => XS.goto X248.here hx rfl (pc0 := 29) (pc' := 8) rfl (hb hby own_d_jdk_52_14_29) (by decide) (by decide) k_) ?_
  show own_Go p e below _ (T248.setTop (mkF m 8 #[.val (.ref a), .val (.int (1 : Int32)), .val (.int (2 : Int32)), .val (.ref r_240), .val (.int (1 : Int32))] []))
  refine own_st (fun u_ k_ => XS.iload X248.here hx rfl (hb hby own_d_jdk_52_14_8) rfl k_) ?_
  show own_Go p e below _ (T248.setTop (mkF m 10 #[.val (.ref a), .val (.int (1 : Int32)), .val (.int (2 : Int32)), .val (.ref r_240), .val (.int (1 : Int32))] [(.int (1 : Int32))]))
  refine own_st (fun u_ k_ => XS.iloadN X248.here hx rfl (hb hby own_d_jdk_52_14_10) rfl k_) ?_
  show own_Go p e below _ (T248.setTop (mkF m 11 #[.val (.ref a), .val (.int (1 : Int32)), .val (.int (2 : Int32)), .val (.ref r_240), .val (.int (1 : Int32))] [(.int (2 : Int32)), (.int (1 : Int32))]))
  refine own_st (fun u_ k_ => XS.icmpNo X248.here hx rfl (hb hby own_d_jdk_52_14_11) rfl (XT.ii_ge_f (by decide)) k_) ?_
  show own_Go p e below _ (T248.setTop (mkF m 14 #[.val (.ref a), .val (.int (1 : Int32)), .val (.int (2 : Int32)), .val (.ref r_240), .val (.int (1 : Int32))] []))
  refine own_st (fun u_ k_ => XS.aloadN X248.here hx rfl (hb hby own_d_jdk_52_14_14) rfl rfl k_) ?_
  show own_Go p e below _ (T248.setTop (mkF m 15 #[.val (.ref a), .val (.int (1 : Int32)), .val (.int (2 : Int32)), .val (.ref r_240), .val (.int (1 : Int32))] [(.ref r_240)]))
  refine own_st (fun u_ k_ => XS.iload X248.here hx rfl (hb hby own_d_jdk_52_14_15) rfl k_) ?_
  show own_Go p e below _ (T248.setTop (mkF m 17 #[.val (.ref a), .val (.int (1 : Int32)), .val (.int (2 : Int32)), .val (.ref r_240), .val (.int (1 : Int32))] [(.int (1 : Int32)), (.ref r_240)]))
  refine own_st (fun u_ k_ => XS.aloadN X248.here hx rfl (hb hby own_d_jdk_52_14_17) rfl rfl k_) ?_
  show own_Go p e below _ (T248.setTop (mkF m 18 #[.val (.ref a), .val (.int (1 : Int32)), .val (.int (2 : Int32)), .val (.ref r_240), .val (.int (1 : Int32))] [(.ref a), (.int (1 : Int32)), (.ref r_240)]))
  refine own_st (fun u_ k_ => XS.iloadN X248.here hx rfl (hb hby own_d_jdk_52_14_18) rfl k_) ?_
  show own_Go p e below _ (T248.setTop (mkF m 19 #[.val (.ref a), .val (.int (1 : Int32)), .val (.int (2 : Int32)), .val (.ref r_240), .val (.int (1 : Int32))] [(.int (1 : Int32)), (.ref a), (.int (1 : Int32)), (.ref r_240)]))
  have ne252 : a ≠ r_240 := (Nat.ne_of_lt (Nat.lt_of_lt_of_le Ea.lt z242))
  have F253 := (F245.keep K248 (ninS ne252 nin0))
  obtain ⟨cl254, Ar254, q254, S254, N254, H254, G254⟩ := id F253
  have hi254 : ¬ ((1 : Int32) < 0 ∨ cl254.slots.size ≤ ((1 : Int32)).toNatClampNeg) := inb_of S254 ⟨by decide, by decide⟩
  have ha254 : cl254.slots[((1 : Int32)).toNatClampNeg]? = some (.int v1) := H254.at hi254 rfl
  refine own_st (X248.caload hx (j := (1 : Int32)) (v := (.int v1)) Ar254.1 (State.isArrayOf_alike hZ.alike Ar254.2.1) Ar254.2.2 hi254 ha254 (g := (mkF m 19 #[.val (.ref a), .val (.int (1 : Int32)), .val (.int (2 : Int32)), .val (.ref r_240), .val (.int (1 : Int32))] [(.int (1 : Int32)), (.ref a), (.int (1 : Int32)), (.ref r_240)])) rfl rfl (hb hby own_d_jdk_52_14_19)) ?_
  show own_Go p e below _ (T248.setTop (mkF m 20 #[.val (.ref a), .val (.int (1 : Int32)), .val (.int (2 : Int32)), .val (.ref r_240), .val (.int (1 : Int32))] [(.int v1), (.int (1 : Int32)), (.ref r_240)]))
  have O256 : Old Z n0 T248.heap := O249.keep K248 (allS g247 all0)
  obtain ⟨T255, v255, L255, X255, hQ255, st255⟩ := own_callS X248 hx hZ (y := own_y_56) hown (own_w hw 69 rfl) (own_w hw 70 rfl) (own_w hw 18 rfl) (own_w hw 71 rfl) own_lm_28 (rmPC2_1 l Z a0 hw [] wcs hS r_240 kr_241 v1 ((v0 >>> ((0 : Int32) &&& 31)).toInt8.toInt32) ((v0 >>> ((8 : Int32) &&& 31)).toInt8.toInt32) (0 : Int32) (0 : Int32) T248.heap n0 O256 F250 g247 F251) rfl own_pd_98 (argsL := [(.ref r_240), (.int (1 : Int32)), (.int v1)]) (rest := []) rfl rfl (g := (mkF m 20 #[.val (.ref a), .val (.int (1 : Int32)), .val (.int (2 : Int32)), .val (.ref r_240), .val (.int (1 : Int32))] [(.int v1), (.int (1 : Int32)), (.ref r_240)])) rfl (by rw [hml]; rfl) rfl (hb hby own_d_jdk_52_14_20) (W := 0) rfl (by decide) (by decide) (by decide) (by decide)
  obtain ⟨rfl, M255, K255, F257, F258⟩ := hQ255
  have N255 := Fr.app N248 M255
  refine own_st (fun u_ k_ => st255 u_ k_) ?_
  show own_Go p e below _ (T255.setTop (mkF m 23 #[.val (.ref a), .val (.int (1 : Int32)), .val (.int (2 : Int32)), .val (.ref r_240), .val (.int (1 : Int32))] []))
  refine own_st (fun u_ k_ => XS.iinc X255.here hx rfl (hb hby own_d_jdk_52_14_23) rfl (l' := #[.val (.ref a), .val (.int (2 : Int32)), .val (.int (2 : Int32)), .val (.ref r_240), .val (.int (1 : Int32))]) rfl k_) ?_
  show own_Go p e below _ (T255.setTop (mkF m 26 #[.val (.ref a), .val (.int (2 : Int32)), .val (.int (2 : Int32)), .val (.ref r_240), .val (.int (1 : Int32))] []))
  refine own_st (fun u_ k_ => XS.iinc X255.here hx rfl (hb hby own_d_jdk_52_14_26) rfl (l' := #[.val (.ref a), .val (.int (2 : Int32)), .val (.int (2 : Int32)), .val (.ref r_240), .val (.int (2 : Int32))]) rfl k_) ?_
  show own_Go p e below _ (T255.setTop (mkF m 29 #[.val (.ref a), .val (.int (2 : Int32)), .val (.int (2 : Int32)), .val (.ref r_240), .val (.int (2 : Int32))] []))
  refine own_st (fun u_ k_ => XS.goto X255.here hx rfl (pc0 := 29) (pc' := 8) rfl (hb hby own_d_jdk_52_14_29) (by decide) (by decide) k_) ?_
  show own_Go p e below _ (T255.setTop (mkF m 8 #[.val (.ref a), .val (.int (2 : Int32)), .val (.int (2 : Int32)), .val (.ref r_240), .val (.int (2 : Int32))] []))
  refine own_st (fun u_ k_ => XS.iload X255.here hx rfl (hb hby own_d_jdk_52_14_8) rfl k_) ?_
  show own_Go p e below _ (T255.setTop (mkF m 10 #[.val (.ref a), .val (.int (2 : Int32)), .val (.int (2 : Int32)), .val (.ref r_240), .val (.int (2 : Int32))] [(.int (2 : Int32))]))
  refine own_st (fun u_ k_ => XS.iloadN X255.here hx rfl (hb hby own_d_jdk_52_14_10) rfl k_) ?_
  show own_Go p e below _ (T255.setTop (mkF m 11 #[.val (.ref a), .val (.int (2 : Int32)), .val (.int (2 : Int32)), .val (.ref r_240), .val (.int (2 : Int32))] [(.int (2 : Int32)), (.int (2 : Int32))]))
  refine own_st (fun u_ k_ => XS.icmpYes X255.here hx rfl (pc0 := 11) (pc' := 32) rfl (hb hby own_d_jdk_52_14_11) rfl (XT.ii_ge_t (by decide)) (by decide) (by decide) k_) ?_
  show own_Go p e below _ (T255.setTop (mkF m 32 #[.val (.ref a), .val (.int (2 : Int32)), .val (.int (2 : Int32)), .val (.ref r_240), .val (.int (2 : Int32))] []))
  refine own_st (fun u_ k_ => XS.aloadN X255.here hx rfl (hb hby own_d_jdk_52_14_32) rfl rfl k_) ?_
  show own_Go p e below _ (T255.setTop (mkF m 33 #[.val (.ref a), .val (.int (2 : Int32)), .val (.int (2 : Int32)), .val (.ref r_240), .val (.int (2 : Int32))] [(.ref r_240)]))
  have K259 : Keep h0 T239.heap [] := (Keep.refl h0 []).trans K239 all0
  have z261 : h0.size ≤ r_240 := Nat.le_trans (Nat.le_refl _) z242
  have K260 : Keep h0 T248.heap [] := K259.trans K248 (allS (Or.inr z261) all0)
  have K262 : Keep h0 T255.heap [] := K260.trans K255 (allS (Or.inr z261) all0)
  exact own_retX X255 hx hlk hret rfl (Or.inr (Or.inr (Or.inr (Or.inr ⟨rfl, rfl, rfl⟩)))) (hb hby own_d_jdk_52_14_33) (by decide) (by decide) (show QrmTB2 Z wcs a ka v0 v1 h0 n0 (some (.ref r_240)) T255.heap _ from (by exact ⟨r_240, kr_241, rfl, N255, K262, z261, F257, F258⟩))
theorem own_ef_rmCq2_0 (m : MethodId) (a : Addr)  : entryFrame m #[(.ref a), (.int (0 : Int32)), (.int (2 : Int32))] 6 = mkF m 0 #[.val (.ref a), .val (.int (0 : Int32)), .val (.int (2 : Int32)), .unset, .unset, .unset] [] := by first | (simp [entryFrame, mkF, argsToLocals, Value.category, maxLocals]; done) | rfl
def QrmCq2_0 (Z : State) (wcs : Int32) (a : Addr) (ka : ClassId) (v0 : Int32) (v1 : Int32) (h0 : Heap) (n0 : Nat) (v : Option Value) (h : Heap) (L : List Loc) : Prop := ∃ r : Addr, ∃ kr : ClassId, v = some (.ref r) ∧ Fr n0 L ∧ Keep h0 h [] ∧ h0.size ≤ r ∧ Exa Z h r "[B" ∧ Arv Z h r kr .byte (4 : Int32) [(.int ((v0 >>> ((0 : Int32) &&& 31)).toInt8.toInt32)), (.int ((v0 >>> ((8 : Int32) &&& 31)).toInt8.toInt32)), (.int ((v1 >>> ((0 : Int32) &&& 31)).toInt8.toInt32)), (.int ((v1 >>> ((8 : Int32) &&& 31)).toInt8.toInt32))] (.int (0 : Int32))
set_option maxRecDepth 65536 in
set_option maxHeartbeats 40000000 in
theorem rmCq2_0 (l : Launch) (Z : State) (a0 : Array Value) (hw : own_H a0 Z) (ws : List Jvm.Cond) (wcs : Int32) (hS : own_S Z wcs) (a : Addr) (ka : ClassId) (v0 : Int32) (v1 : Int32) (h0 : Heap) (n0 : Nat) (O0 : Old Z n0 h0) (Ea : Exa Z h0 a "[C") (A1 : Arv Z h0 a ka .char (2 : Int32) [(.int v0), (.int v1)] (.int (0 : Int32))) (q0 : (255 : Int32) < v0) (w0 : own_C16 v0) (w1 : own_C16 v1) :
    own_Met l own_y_134 jdk_52_method_16_code 6 (some (.array .byte)) ws ({ frames := 3, cells := 2, slots := 6, locals := 40 } : Room) Z h0 #[(.ref a), (.int (0 : Int32)), (.int (2 : Int32))] (QrmCq2_0 Z wcs a ka v0 v1 h0 n0) := by
  refine own_body (plainFor_of_name own_pn_15) ?_
  intro p e s m below meth c s₁ hx hby hml hown hnm hret hlk hZ e0 X0
  have N0 := Fr.nil n0
  refine own_st (fun u_ k_ => castTop (own_ef_rmCq2_0 m a) k_) ?_
  show own_Go p e below _ (s₁.setTop (mkF m 0 #[.val (.ref a), .val (.int (0 : Int32)), .val (.int (2 : Int32)), .unset, .unset, .unset] []))
  refine own_st (fun u_ k_ => XS.iloadN X0.here hx rfl (hb hby own_d_jdk_52_16_0) rfl k_) ?_
  show own_Go p e below _ (s₁.setTop (mkF m 1 #[.val (.ref a), .val (.int (0 : Int32)), .val (.int (2 : Int32)), .unset, .unset, .unset] [(.int (2 : Int32))]))
  obtain ⟨T263, h263, k263, X263, e263, E263, A263, Y263, st263⟩ := newPE X0 hx hZ (own_w hw 20 rfl) e0 (g := (mkF m 1 #[.val (.ref a), .val (.int (0 : Int32)), .val (.int (2 : Int32)), .unset, .unset, .unset] [(.int (2 : Int32))])) rfl (hb hby own_d_jdk_52_16_1) rfl (by decide) (cap := 2) (by decide) (by decide) (by decide) (by decide) (ad := "[B") own_lm_31
  obtain ⟨b263, g263⟩ : ∃ z, z = h0.size := ⟨_, rfl⟩
  rw [← g263] at A263 Y263 st263
  have V263 : Arv Z h263 b263 k263 .byte (2 : Int32) [(.int (0 : Int32)), (.int (0 : Int32))] (.int (0 : Int32)) := (Arv.new A263 (by decide)).pad (pad_rep [] (.int (0 : Int32)) 2)
  refine own_st (fun u_ k_ => st263 u_ k_) ?_
  show own_Go p e below _ (T263.setTop (mkF m 3 #[.val (.ref a), .val (.int (0 : Int32)), .val (.int (2 : Int32)), .unset, .unset, .unset] [(.ref b263)]))
  refine own_st (fun u_ k_ => XS.astoreN X263.here hx rfl (hb hby own_d_jdk_52_16_3) rfl rfl (l' := #[.val (.ref a), .val (.int (0 : Int32)), .val (.int (2 : Int32)), .val (.ref b263), .unset, .unset]) rfl k_) ?_
  show own_Go p e below _ (T263.setTop (mkF m 4 #[.val (.ref a), .val (.int (0 : Int32)), .val (.int (2 : Int32)), .val (.ref b263), .unset, .unset] []))
  refine own_st (fun u_ k_ => XS.aloadN X263.here hx rfl (hb hby own_d_jdk_52_16_4) rfl rfl k_) ?_
  show own_Go p e below _ (T263.setTop (mkF m 5 #[.val (.ref a), .val (.int (0 : Int32)), .val (.int (2 : Int32)), .val (.ref b263), .unset, .unset] [(.ref a)]))
  refine own_st (fun u_ k_ => XS.iloadN X263.here hx rfl (hb hby own_d_jdk_52_16_5) rfl k_) ?_
  show own_Go p e below _ (T263.setTop (mkF m 6 #[.val (.ref a), .val (.int (0 : Int32)), .val (.int (2 : Int32)), .val (.ref b263), .unset, .unset] [(.int (0 : Int32)), (.ref a)]))
  refine own_st (fun u_ k_ => XS.aloadN X263.here hx rfl (hb hby own_d_jdk_52_16_6) rfl rfl k_) ?_
  show own_Go p e below _ (T263.setTop (mkF m 7 #[.val (.ref a), .val (.int (0 : Int32)), .val (.int (2 : Int32)), .val (.ref b263), .unset, .unset] [(.ref b263), (.int (0 : Int32)), (.ref a)]))
  refine own_st (fun u_ k_ => XS.iconst X263.here hx rfl (hb hby own_d_jdk_52_16_7) k_) ?_
  show own_Go p e below _ (T263.setTop (mkF m 8 #[.val (.ref a), .val (.int (0 : Int32)), .val (.int (2 : Int32)), .val (.ref b263), .unset, .unset] [(.int (0 : Int32)), (.ref b263), (.int (0 : Int32)), (.ref a)]))
  refine own_st (fun u_ k_ => XS.iloadN X263.here hx rfl (hb hby own_d_jdk_52_16_8) rfl k_) ?_
  show own_Go p e below _ (T263.setTop (mkF m 9 #[.val (.ref a), .val (.int (0 : Int32)), .val (.int (2 : Int32)), .val (.ref b263), .unset, .unset] [(.int (2 : Int32)), (.int (0 : Int32)), (.ref b263), (.int (0 : Int32)), (.ref a)]))
  have F264 := (Exa.ext E263 Ea)
  have g265 : n0 ≤ b263 := Nat.le_trans (own_nl O0) (Nat.le_of_eq g263.symm)
  have F266 := (A1.ext E263)
  have O268 : Old Z n0 h263 := O0.ext E263
  obtain ⟨T267, v267, L267, X267, hQ267, st267⟩ := own_callS X263 hx hZ (y := own_y_14) hown (own_w hw 21 rfl) (own_w hw 22 rfl) (own_w hw 18 rfl) (own_w hw 23 rfl) own_lm_28 (rmCp2_0 l Z a0 hw [] wcs hS a ka b263 k263 v0 v1 h263 n0 O268 F264 Y263 g265 F266 V263 (by assumption)) e263 own_pd_115 (argsL := [(.ref a), (.int (0 : Int32)), (.ref b263), (.int (0 : Int32)), (.int (2 : Int32))]) (rest := []) rfl rfl (g := (mkF m 9 #[.val (.ref a), .val (.int (0 : Int32)), .val (.int (2 : Int32)), .val (.ref b263), .unset, .unset] [(.int (2 : Int32)), (.int (0 : Int32)), (.ref b263), (.int (0 : Int32)), (.ref a)])) rfl (by rw [hml]; rfl) rfl (hb hby own_d_jdk_52_16_9) (W := 0) rfl (by decide) (by decide) (by decide) (by decide)
  obtain ⟨rfl, M267, K267, F269⟩ := hQ267
  have N267 := Fr.app N0 M267
  refine own_st (fun u_ k_ => st267 u_ k_) ?_
  show own_Go p e below _ (T267.setTop (mkF m 12 #[.val (.ref a), .val (.int (0 : Int32)), .val (.int (2 : Int32)), .val (.ref b263), .unset, .unset] [(.int (0 : Int32))]))
  refine own_st (fun u_ k_ => XS.istore X267.here hx rfl (hb hby own_d_jdk_52_16_12) rfl (l' := #[.val (.ref a), .val (.int (0 : Int32)), .val (.int (2 : Int32)), .val (.ref b263), .val (.int (0 : Int32)), .unset]) rfl k_) ?_
  show own_Go p e below _ (T267.setTop (mkF m 14 #[.val (.ref a), .val (.int (0 : Int32)), .val (.int (2 : Int32)), .val (.ref b263), .val (.int (0 : Int32)), .unset] []))
  refine own_st (fun u_ k_ => XS.iload X267.here hx rfl (hb hby own_d_jdk_52_16_14) rfl k_) ?_
  show own_Go p e below _ (T267.setTop (mkF m 16 #[.val (.ref a), .val (.int (0 : Int32)), .val (.int (2 : Int32)), .val (.ref b263), .val (.int (0 : Int32)), .unset] [(.int (0 : Int32))]))
  refine own_st (fun u_ k_ => XS.iloadN X267.here hx rfl (hb hby own_d_jdk_52_16_16) rfl k_) ?_
  show own_Go p e below _ (T267.setTop (mkF m 17 #[.val (.ref a), .val (.int (0 : Int32)), .val (.int (2 : Int32)), .val (.ref b263), .val (.int (0 : Int32)), .unset] [(.int (2 : Int32)), (.int (0 : Int32))]))
  refine own_st (fun u_ k_ => XS.icmpNo X267.here hx rfl (hb hby own_d_jdk_52_16_17) rfl (XT.ii_eq_f (by decide)) k_) ?_
  show own_Go p e below _ (T267.setTop (mkF m 20 #[.val (.ref a), .val (.int (0 : Int32)), .val (.int (2 : Int32)), .val (.ref b263), .val (.int (0 : Int32)), .unset] []))
  refine own_st (fun u_ k_ => XS.aloadN X267.here hx rfl (hb hby own_d_jdk_52_16_20) rfl rfl k_) ?_
  show own_Go p e below _ (T267.setTop (mkF m 21 #[.val (.ref a), .val (.int (0 : Int32)), .val (.int (2 : Int32)), .val (.ref b263), .val (.int (0 : Int32)), .unset] [(.ref a)]))
  refine own_st (fun u_ k_ => XS.iloadN X267.here hx rfl (hb hby own_d_jdk_52_16_21) rfl k_) ?_
  show own_Go p e below _ (T267.setTop (mkF m 22 #[.val (.ref a), .val (.int (0 : Int32)), .val (.int (2 : Int32)), .val (.ref b263), .val (.int (0 : Int32)), .unset] [(.int (0 : Int32)), (.ref a)]))
  refine own_st (fun u_ k_ => XS.iloadN X267.here hx rfl (hb hby own_d_jdk_52_16_22) rfl k_) ?_
  show own_Go p e below _ (T267.setTop (mkF m 23 #[.val (.ref a), .val (.int (0 : Int32)), .val (.int (2 : Int32)), .val (.ref b263), .val (.int (0 : Int32)), .unset] [(.int (2 : Int32)), (.int (0 : Int32)), (.ref a)]))
  have F270 := (F264.keep K267)
  have ne271 : a ≠ b263 := (Nat.ne_of_lt (Nat.lt_of_lt_of_le Ea.lt (Nat.le_of_eq g263.symm)))
  have F272 := (F266.keep K267 (ninS ne271 nin0))
  have O274 : Old Z n0 T267.heap := O268.keep K267 (allS g265 all0)
  obtain ⟨T273, v273, L273, X273, hQ273, st273⟩ := own_callS X267 hx hZ (y := own_y_104) hown (own_w hw 59 rfl) (own_w hw 60 rfl) (own_w hw 18 rfl) (own_w hw 61 rfl) own_lm_28 (rmTB2 l Z a0 hw [] wcs hS a ka v0 v1 T267.heap n0 O274 F270 F272) rfl own_pd_124 (argsL := [(.ref a), (.int (0 : Int32)), (.int (2 : Int32))]) (rest := []) rfl rfl (g := (mkF m 23 #[.val (.ref a), .val (.int (0 : Int32)), .val (.int (2 : Int32)), .val (.ref b263), .val (.int (0 : Int32)), .unset] [(.int (2 : Int32)), (.int (0 : Int32)), (.ref a)])) rfl (by rw [hml]; rfl) rfl (hb hby own_d_jdk_52_16_23) (W := 0) rfl (by decide) (by decide) (by decide) (by decide)
  obtain ⟨r_275, kr_276, rfl, M273, K273, z277, F278, F279⟩ := hQ273
  have N273 := Fr.app N267 M273
  refine own_st (fun u_ k_ => st273 u_ k_) ?_
  show own_Go p e below _ (T273.setTop (mkF m 26 #[.val (.ref a), .val (.int (0 : Int32)), .val (.int (2 : Int32)), .val (.ref b263), .val (.int (0 : Int32)), .unset] [(.ref r_275)]))
  refine own_st (fun u_ k_ => XS.astore X273.here hx rfl (hb hby own_d_jdk_52_16_26) rfl rfl (l' := #[.val (.ref a), .val (.int (0 : Int32)), .val (.int (2 : Int32)), .val (.ref b263), .val (.int (0 : Int32)), .val (.ref r_275)]) rfl k_) ?_
  show own_Go p e below _ (T273.setTop (mkF m 28 #[.val (.ref a), .val (.int (0 : Int32)), .val (.int (2 : Int32)), .val (.ref b263), .val (.int (0 : Int32)), .val (.ref r_275)] []))
  refine own_st (fun u_ k_ => XS.aload X273.here hx rfl (hb hby own_d_jdk_52_16_28) rfl rfl k_) ?_
  show own_Go p e below _ (T273.setTop (mkF m 30 #[.val (.ref a), .val (.int (0 : Int32)), .val (.int (2 : Int32)), .val (.ref b263), .val (.int (0 : Int32)), .val (.ref r_275)] [(.ref r_275)]))
  refine own_st (fun u_ k_ => XS.iload X273.here hx rfl (hb hby own_d_jdk_52_16_30) rfl k_) ?_
  show own_Go p e below _ (T273.setTop (mkF m 32 #[.val (.ref a), .val (.int (0 : Int32)), .val (.int (2 : Int32)), .val (.ref b263), .val (.int (0 : Int32)), .val (.ref r_275)] [(.int (0 : Int32)), (.ref r_275)]))
  have O281 : Old Z n0 T273.heap := O274.keep K273 all0
  obtain ⟨T280, v280, L280, X280, hQ280, st280⟩ := own_callS X273 hx hZ (y := own_y_81) hown (own_w hw 75 rfl) (own_w hw 76 rfl) (own_w hw 18 rfl) (own_w hw 77 rfl) own_lm_28 (rmGC2_0 l Z a0 hw [] wcs hS r_275 kr_276 ((v0 >>> ((0 : Int32) &&& 31)).toInt8.toInt32) ((v0 >>> ((8 : Int32) &&& 31)).toInt8.toInt32) ((v1 >>> ((0 : Int32) &&& 31)).toInt8.toInt32) ((v1 >>> ((8 : Int32) &&& 31)).toInt8.toInt32) T273.heap n0 O281 F279) rfl own_pd_129 (argsL := [(.ref r_275), (.int (0 : Int32))]) (rest := []) rfl rfl (g := (mkF m 32 #[.val (.ref a), .val (.int (0 : Int32)), .val (.int (2 : Int32)), .val (.ref b263), .val (.int (0 : Int32)), .val (.ref r_275)] [(.int (0 : Int32)), (.ref r_275)])) rfl (by rw [hml]; rfl) rfl (hb hby own_d_jdk_52_16_32) (W := 0) rfl (by decide) (by decide) (by decide) (by decide)
  obtain ⟨rfl, M280, e280⟩ := hQ280
  have N280 := Fr.app N273 M280
  refine own_st (fun u_ k_ => st280 u_ k_) ?_
  show own_Go p e below _ (T280.setTop (mkF m 35 #[.val (.ref a), .val (.int (0 : Int32)), .val (.int (2 : Int32)), .val (.ref b263), .val (.int (0 : Int32)), .val (.ref r_275)] [(.int ((((((v0 >>> ((0 : Int32) &&& 31)).toInt8.toInt32) &&& (255 : Int32)) <<< ((0 : Int32) &&& 31)) ||| ((((v0 >>> ((8 : Int32) &&& 31)).toInt8.toInt32) &&& (255 : Int32)) <<< ((8 : Int32) &&& 31))).toUInt32.toUInt16.toUInt32.toInt32))]))
  refine own_st (fun u_ k_ => XS.sipush X280.here hx rfl (hb hby own_d_jdk_52_16_35) k_) ?_
  show own_Go p e below _ (T280.setTop (mkF m 38 #[.val (.ref a), .val (.int (0 : Int32)), .val (.int (2 : Int32)), .val (.ref b263), .val (.int (0 : Int32)), .val (.ref r_275)] [(.int (255 : Int32)), (.int ((((((v0 >>> ((0 : Int32) &&& 31)).toInt8.toInt32) &&& (255 : Int32)) <<< ((0 : Int32) &&& 31)) ||| ((((v0 >>> ((8 : Int32) &&& 31)).toInt8.toInt32) &&& (255 : Int32)) <<< ((8 : Int32) &&& 31))).toUInt32.toUInt16.toUInt32.toInt32))]))
  refine own_st (fun u_ k_ => XS.icmpYes X280.here hx rfl (pc0 := 38) (pc' := 54) rfl (hb hby own_d_jdk_52_16_38) rfl (XT.ii_gt_t (by rw [own_gc _ w0]; exact q0)) (by decide) (by decide) k_) ?_
  show own_Go p e below _ (T280.setTop (mkF m 54 #[.val (.ref a), .val (.int (0 : Int32)), .val (.int (2 : Int32)), .val (.ref b263), .val (.int (0 : Int32)), .val (.ref r_275)] []))
  refine own_st (fun u_ k_ => XS.aload X280.here hx rfl (hb hby own_d_jdk_52_16_54) rfl rfl k_) ?_
  show own_Go p e below _ (T280.setTop (mkF m 56 #[.val (.ref a), .val (.int (0 : Int32)), .val (.int (2 : Int32)), .val (.ref b263), .val (.int (0 : Int32)), .val (.ref r_275)] [(.ref r_275)]))
  have K282 : Keep h0 h263 [] := (Keep.refl h0 []).ext E263
  have z284 : h0.size ≤ b263 := Nat.le_trans (Nat.le_refl _) (Nat.le_of_eq g263.symm)
  have K283 : Keep h0 T267.heap [] := K282.trans K267 (allS (Or.inr z284) all0)
  have K285 : Keep h0 T273.heap [] := K283.trans K273 all0
  have z286 : h0.size ≤ r_275 := Nat.le_trans (Nat.le_trans E263.1 K267.1) z277
  exact own_retX X280 hx hlk hret rfl (Or.inr (Or.inr (Or.inr (Or.inr ⟨rfl, rfl, rfl⟩)))) (hb hby own_d_jdk_52_16_56) (by decide) (by decide) (show QrmCq2_0 Z wcs a ka v0 v1 h0 n0 (some (.ref r_275)) T280.heap _ from (by rw [e280]; exact ⟨r_275, kr_276, rfl, N280, K285, z286, F278, F279⟩))
theorem own_ef_rmCo2_4 (m : MethodId) (b : Addr)  : entryFrame m #[(.ref b), (.int (2 : Int32))] 2 = mkF m 0 #[.val (.ref b), .val (.int (2 : Int32))] [] := by first | (simp [entryFrame, mkF, argsToLocals, Value.category, maxLocals]; done) | rfl
def QrmCo2_4 (Z : State) (wcs : Int32) (b : Addr) (kb : ClassId) (vs : List Value) (h0 : Heap) (n0 : Nat) (v : Option Value) (h : Heap) (L : List Loc) : Prop := v = some (.int (1 : Int32)) ∧ Fr n0 L ∧ h = h0
set_option maxRecDepth 65536 in
set_option maxHeartbeats 40000000 in
theorem rmCo2_4 (l : Launch) (Z : State) (a0 : Array Value) (hw : own_H a0 Z) (ws : List Jvm.Cond) (wcs : Int32) (hS : own_S Z wcs) (b : Addr) (kb : ClassId) (vs : List Value) (h0 : Heap) (n0 : Nat) (O0 : Old Z n0 h0) (A2 : Arv Z h0 b kb .byte (4 : Int32) vs (.int (0 : Int32))) :
    own_Met l own_y_143 jdk_52_method_15_code 2 (some .byte) ws ({ frames := 0, cells := 0, slots := 0, locals := 0 } : Room) Z h0 #[(.ref b), (.int (2 : Int32))] (QrmCo2_4 Z wcs b kb vs h0 n0) := by
  refine own_body (plainFor_of_name own_pn_15) ?_
  intro p e s m below meth c s₁ hx hby hml hown hnm hret hlk hZ e0 X0
  have N0 := Fr.nil n0
  refine own_st (fun u_ k_ => castTop (own_ef_rmCo2_4 m b) k_) ?_
  show own_Go p e below _ (s₁.setTop (mkF m 0 #[.val (.ref b), .val (.int (2 : Int32))] []))
  refine own_st (fun u_ k_ => XS.iloadN X0.here hx rfl (hb hby own_d_jdk_52_15_0) rfl k_) ?_
  show own_Go p e below _ (s₁.setTop (mkF m 1 #[.val (.ref b), .val (.int (2 : Int32))] [(.int (2 : Int32))]))
  refine own_st (fun u_ k_ => XS.aloadN X0.here hx rfl (hb hby own_d_jdk_52_15_1) rfl rfl k_) ?_
  show own_Go p e below _ (s₁.setTop (mkF m 2 #[.val (.ref b), .val (.int (2 : Int32))] [(.ref b), (.int (2 : Int32))]))
  obtain ⟨cl287, Ar287, -, S287, N287, -, -⟩ := id A2
  refine own_st (X0.arraylength hx (by rw [e0]; exact Ar287.1) (State.isArrayOf_alike hZ.alike Ar287.2.1) (g := (mkF m 2 #[.val (.ref b), .val (.int (2 : Int32))] [(.ref b), (.int (2 : Int32))])) rfl rfl (hb hby own_d_jdk_52_15_2)) ?_
  rw [len_of S287 N287]
  show own_Go p e below _ (s₁.setTop (mkF m 3 #[.val (.ref b), .val (.int (2 : Int32))] [(.int (4 : Int32)), (.int (2 : Int32))]))
  refine own_st (fun u_ k_ => XS.isub X0.here hx rfl (hb hby own_d_jdk_52_15_3) rfl k_) ?_
  show own_Go p e below _ (s₁.setTop (mkF m 4 #[.val (.ref b), .val (.int (2 : Int32))] [(.int (-2 : Int32))]))
  refine own_st (fun u_ k_ => XS.bipush X0.here hx rfl (hb hby own_d_jdk_52_15_4) k_) ?_
  show own_Go p e below _ (s₁.setTop (mkF m 6 #[.val (.ref b), .val (.int (2 : Int32))] [(.int (31 : Int32)), (.int (-2 : Int32))]))
  refine own_st (fun u_ k_ => XS.iushr X0.here hx rfl (hb hby own_d_jdk_52_15_6) rfl k_) ?_
  show own_Go p e below _ (s₁.setTop (mkF m 7 #[.val (.ref b), .val (.int (2 : Int32))] [(.int (1 : Int32))]))
  refine own_st (fun u_ k_ => XS.i2b X0.here hx rfl (hb hby own_d_jdk_52_15_7) rfl k_) ?_
  show own_Go p e below _ (s₁.setTop (mkF m 8 #[.val (.ref b), .val (.int (2 : Int32))] [(.int (1 : Int32))]))
  exact own_retX X0 hx hlk hret rfl (Or.inl ⟨rfl, by simp, _, rfl⟩) (hb hby own_d_jdk_52_15_8) (by decide) (by decide) (show QrmCo2_4 Z wcs b kb vs h0 n0 (some (.int (1 : Int32))) s₁.heap _ from (by rw [e0]; exact ⟨rfl, N0, rfl⟩))
theorem own_ef_rmS4_2_0 (m : MethodId) (a : Addr) (b : Addr)  : entryFrame m #[(.ref a), (.ref b), (.int (0 : Int32)), (.int (2 : Int32)), .null] 6 = mkF m 0 #[.val (.ref a), .val (.ref b), .val (.int (0 : Int32)), .val (.int (2 : Int32)), .val .null, .unset] [] := by first | (simp [entryFrame, mkF, argsToLocals, Value.category, maxLocals]; done) | rfl
def QrmS4_2_0 (Z : State) (wcs : Int32) (a : Addr) (b : Addr) (kb : ClassId) (v0 : Int32) (v1 : Int32) (h0 : Heap) (n0 : Nat) (v : Option Value) (h : Heap) (L : List Loc) : Prop := ∃ r : Addr, ∃ kr : ClassId, v = none ∧ Fr n0 L ∧ Keep h0 h [a] ∧ h0.size ≤ r ∧ Exa Z h a "java/lang/String" ∧ Fld Z h a "java/lang/String" "value" "[B" (.ref r) ∧ Fld Z h a "java/lang/String" "coder" "B" (.int (1 : Int32)) ∧ Exa Z h r "[B" ∧ Arv Z h r kr .byte (4 : Int32) [(.int ((v0 >>> ((0 : Int32) &&& 31)).toInt8.toInt32)), (.int ((v0 >>> ((8 : Int32) &&& 31)).toInt8.toInt32)), (.int ((v1 >>> ((0 : Int32) &&& 31)).toInt8.toInt32)), (.int ((v1 >>> ((8 : Int32) &&& 31)).toInt8.toInt32))] (.int (0 : Int32))
set_option maxRecDepth 65536 in
set_option maxHeartbeats 40000000 in
theorem rmS4_2_0 (l : Launch) (Z : State) (a0 : Array Value) (hw : own_H a0 Z) (ws : List Jvm.Cond) (wcs : Int32) (hS : own_S Z wcs) (a : Addr) (b : Addr) (kb : ClassId) (v0 : Int32) (v1 : Int32) (h0 : Heap) (n0 : Nat) (O0 : Old Z n0 h0) (E : Exa Z h0 a "java/lang/String") (Ea : Exa Z h0 b "[C") (ga : n0 ≤ a) (F1 : Fld Z h0 a "java/lang/String" "value" "[B" .null) (F2 : Fld Z h0 a "java/lang/String" "coder" "B" (.int (0 : Int32))) (A1 : Arv Z h0 b kb .char (2 : Int32) [(.int v0), (.int v1)] (.int (0 : Int32))) (q0 : (255 : Int32) < v0) (w0 : own_C16 v0) (w1 : own_C16 v1) :
    own_Met l own_y_172 jdk_42_method_149_code 6 none ws ({ frames := 4, cells := 2, slots := 6, locals := 57 } : Room) Z h0 #[(.ref a), (.ref b), (.int (0 : Int32)), (.int (2 : Int32)), .null] (QrmS4_2_0 Z wcs a b kb v0 v1 h0 n0) := by
  refine own_body (plainFor_of_name own_pn_173) ?_
  intro p e s m below meth c s₁ hx hby hml hown hnm hret hlk hZ e0 X0
  have N0 := Fr.nil n0
  refine own_st (fun u_ k_ => castTop (own_ef_rmS4_2_0 m a b) k_) ?_
  show own_Go p e below _ (s₁.setTop (mkF m 0 #[.val (.ref a), .val (.ref b), .val (.int (0 : Int32)), .val (.int (2 : Int32)), .val .null, .unset] []))
  refine own_st (fun u_ k_ => XS.aloadN X0.here hx rfl (hb hby own_d_jdk_42_149_0) rfl rfl k_) ?_
  show own_Go p e below _ (s₁.setTop (mkF m 1 #[.val (.ref a), .val (.ref b), .val (.int (0 : Int32)), .val (.int (2 : Int32)), .val .null, .unset] [(.ref a)]))
  obtain ⟨T288, X288, e288, st288⟩ := initO X0 hx hZ hown (own_w hw 12 rfl) (own_w hw 13 rfl) (own_w hw 14 rfl) e0 (g := (mkF m 1 #[.val (.ref a), .val (.ref b), .val (.int (0 : Int32)), .val (.int (2 : Int32)), .val .null, .unset] [(.ref a)])) rfl (by rw [hml]; rfl) rfl (hb hby own_d_jdk_42_149_1) (by decide) (W := 0) (by show 2 * 0 + _ ≤ _; exact Nat.le_of_eq rfl) (by decide)
  refine own_st (fun u_ k_ => st288 u_ k_) ?_
  show own_Go p e below _ (T288.setTop (mkF m 4 #[.val (.ref a), .val (.ref b), .val (.int (0 : Int32)), .val (.int (2 : Int32)), .val .null, .unset] []))
  refine own_st (fun u_ k_ => XS.iloadN X288.here hx rfl (hb hby own_d_jdk_42_149_4) rfl k_) ?_
  show own_Go p e below _ (T288.setTop (mkF m 5 #[.val (.ref a), .val (.ref b), .val (.int (0 : Int32)), .val (.int (2 : Int32)), .val .null, .unset] [(.int (2 : Int32))]))
  refine own_st (fun u_ k_ => XS.ifYes X288.here hx rfl (pc0 := 5) (pc' := 27) rfl (hb hby own_d_jdk_42_149_5) rfl (XT.i0_ne_t (by decide)) (by decide) (by decide) k_) ?_
  show own_Go p e below _ (T288.setTop (mkF m 27 #[.val (.ref a), .val (.ref b), .val (.int (0 : Int32)), .val (.int (2 : Int32)), .val .null, .unset] []))
  have F289 := Sta.ext O0.2 hS.1
  obtain ⟨T290, X290, e290, st290⟩ := getS2 X288 hx hZ hown (host := "") (Or.inl (own_w hw 15 rfl)) Via.refl e288 F289 (g := (mkF m 27 #[.val (.ref a), .val (.ref b), .val (.int (0 : Int32)), .val (.int (2 : Int32)), .val .null, .unset] [])) rfl (hb hby own_d_jdk_42_149_27)
  refine own_st (fun u_ k_ => st290 u_ k_) ?_
  show own_Go p e below _ (T290.setTop (mkF m 30 #[.val (.ref a), .val (.ref b), .val (.int (0 : Int32)), .val (.int (2 : Int32)), .val .null, .unset] [(.int wcs)]))
  refine own_st (fun u_ k_ => XS.ifNo X290.here hx rfl (hb hby own_d_jdk_42_149_30) rfl (XT.i0_eq_f hS.2.1) k_) ?_
  show own_Go p e below _ (T290.setTop (mkF m 33 #[.val (.ref a), .val (.ref b), .val (.int (0 : Int32)), .val (.int (2 : Int32)), .val .null, .unset] []))
  refine own_st (fun u_ k_ => XS.aloadN X290.here hx rfl (hb hby own_d_jdk_42_149_33) rfl rfl k_) ?_
  show own_Go p e below _ (T290.setTop (mkF m 34 #[.val (.ref a), .val (.ref b), .val (.int (0 : Int32)), .val (.int (2 : Int32)), .val .null, .unset] [(.ref b)]))
  refine own_st (fun u_ k_ => XS.iloadN X290.here hx rfl (hb hby own_d_jdk_42_149_34) rfl k_) ?_
  show own_Go p e below _ (T290.setTop (mkF m 35 #[.val (.ref a), .val (.ref b), .val (.int (0 : Int32)), .val (.int (2 : Int32)), .val .null, .unset] [(.int (0 : Int32)), (.ref b)]))
  refine own_st (fun u_ k_ => XS.iloadN X290.here hx rfl (hb hby own_d_jdk_42_149_35) rfl k_) ?_
  show own_Go p e below _ (T290.setTop (mkF m 36 #[.val (.ref a), .val (.ref b), .val (.int (0 : Int32)), .val (.int (2 : Int32)), .val .null, .unset] [(.int (2 : Int32)), (.int (0 : Int32)), (.ref b)]))
  obtain ⟨T291, v291, L291, X291, hQ291, st291⟩ := own_callS X290 hx hZ (y := own_y_134) hown (own_w hw 16 rfl) (own_w hw 17 rfl) (own_w hw 18 rfl) (own_w hw 19 rfl) own_lm_28 (rmCq2_0 l Z a0 hw [] wcs hS b kb v0 v1 h0 n0 O0 Ea A1 (by assumption) (by assumption) (by assumption)) e290 own_pd_124 (argsL := [(.ref b), (.int (0 : Int32)), (.int (2 : Int32))]) (rest := []) rfl rfl (g := (mkF m 36 #[.val (.ref a), .val (.ref b), .val (.int (0 : Int32)), .val (.int (2 : Int32)), .val .null, .unset] [(.int (2 : Int32)), (.int (0 : Int32)), (.ref b)])) rfl (by rw [hml]; rfl) rfl (hb hby own_d_jdk_42_149_36) (W := 0) rfl (by decide) (by decide) (by decide) (by decide)
  obtain ⟨r_292, kr_293, rfl, M291, K291, z294, F295, F296⟩ := hQ291
  have N291 := Fr.app N0 M291
  refine own_st (fun u_ k_ => st291 u_ k_) ?_
  show own_Go p e below _ (T291.setTop (mkF m 39 #[.val (.ref a), .val (.ref b), .val (.int (0 : Int32)), .val (.int (2 : Int32)), .val .null, .unset] [(.ref r_292)]))
  refine own_st (fun u_ k_ => XS.astore X291.here hx rfl (hb hby own_d_jdk_42_149_39) rfl rfl (l' := #[.val (.ref a), .val (.ref b), .val (.int (0 : Int32)), .val (.int (2 : Int32)), .val .null, .val (.ref r_292)]) rfl k_) ?_
  show own_Go p e below _ (T291.setTop (mkF m 41 #[.val (.ref a), .val (.ref b), .val (.int (0 : Int32)), .val (.int (2 : Int32)), .val .null, .val (.ref r_292)] []))
  refine own_st (fun u_ k_ => XS.aloadN X291.here hx rfl (hb hby own_d_jdk_42_149_41) rfl rfl k_) ?_
  show own_Go p e below _ (T291.setTop (mkF m 42 #[.val (.ref a), .val (.ref b), .val (.int (0 : Int32)), .val (.int (2 : Int32)), .val .null, .val (.ref r_292)] [(.ref a)]))
  refine own_st (fun u_ k_ => XS.aload X291.here hx rfl (hb hby own_d_jdk_42_149_42) rfl rfl k_) ?_
  show own_Go p e below _ (T291.setTop (mkF m 44 #[.val (.ref a), .val (.ref b), .val (.int (0 : Int32)), .val (.int (2 : Int32)), .val .null, .val (.ref r_292)] [(.ref r_292), (.ref a)]))
  refine own_st (fun u_ k_ => XS.iloadN X291.here hx rfl (hb hby own_d_jdk_42_149_44) rfl k_) ?_
  show own_Go p e below _ (T291.setTop (mkF m 45 #[.val (.ref a), .val (.ref b), .val (.int (0 : Int32)), .val (.int (2 : Int32)), .val .null, .val (.ref r_292)] [(.int (2 : Int32)), (.ref r_292), (.ref a)]))
  have O298 : Old Z n0 T291.heap := O0.keep K291 all0
  obtain ⟨T297, v297, L297, X297, hQ297, st297⟩ := own_callS X291 hx hZ (y := own_y_143) hown (own_w hw 24 rfl) (own_w hw 25 rfl) (own_w hw 18 rfl) (own_w hw 26 rfl) own_lm_28 (rmCo2_4 l Z a0 hw [] wcs hS r_292 kr_293 [(.int ((v0 >>> ((0 : Int32) &&& 31)).toInt8.toInt32)), (.int ((v0 >>> ((8 : Int32) &&& 31)).toInt8.toInt32)), (.int ((v1 >>> ((0 : Int32) &&& 31)).toInt8.toInt32)), (.int ((v1 >>> ((8 : Int32) &&& 31)).toInt8.toInt32))] T291.heap n0 O298 F296) rfl own_pd_160 (argsL := [(.ref r_292), (.int (2 : Int32))]) (rest := [(.ref a)]) rfl rfl (g := (mkF m 45 #[.val (.ref a), .val (.ref b), .val (.int (0 : Int32)), .val (.int (2 : Int32)), .val .null, .val (.ref r_292)] [(.int (2 : Int32)), (.ref r_292), (.ref a)])) rfl (by rw [hml]; rfl) rfl (hb hby own_d_jdk_42_149_45) (W := 1) rfl (by decide) (by decide) (by decide) (by decide)
  obtain ⟨rfl, M297, e297⟩ := hQ297
  have N297 := Fr.app N291 M297
  refine own_st (fun u_ k_ => st297 u_ k_) ?_
  show own_Go p e below _ (T297.setTop (mkF m 48 #[.val (.ref a), .val (.ref b), .val (.int (0 : Int32)), .val (.int (2 : Int32)), .val .null, .val (.ref r_292)] [(.int (1 : Int32)), (.ref a)]))
  have F299 := (E.keep K291)
  have F300 := (F2.keep K291 nin0)
  obtain ⟨T301, h301, X301, e301, W301, st301⟩ := putF X297 hx hZ hown (host := "") (Or.inl (own_w hw 27 rfl)) Via.refl e297 F300 F299 (Or.inr ⟨(own_w hw 28 rfl), rfl, hnm⟩) (own_w hw 3 rfl) (ty := .byte) own_lm_162 rfl rfl (g := (mkF m 48 #[.val (.ref a), .val (.ref b), .val (.int (0 : Int32)), .val (.int (2 : Int32)), .val .null, .val (.ref r_292)] [(.int (1 : Int32)), (.ref a)])) rfl rfl (hb hby own_d_jdk_42_149_48)
  have N301 := Fr.snoc X301 N297 ga
  have F302 : Fld Z h301 a "java/lang/String" "coder" "B" (.int (1 : Int32)) := Fld.same W301 F300
  refine own_st (fun u_ k_ => st301 u_ k_) ?_
  show own_Go p e below _ (T301.setTop (mkF m 51 #[.val (.ref a), .val (.ref b), .val (.int (0 : Int32)), .val (.int (2 : Int32)), .val .null, .val (.ref r_292)] []))
  refine own_st (fun u_ k_ => XS.aloadN X301.here hx rfl (hb hby own_d_jdk_42_149_51) rfl rfl k_) ?_
  show own_Go p e below _ (T301.setTop (mkF m 52 #[.val (.ref a), .val (.ref b), .val (.int (0 : Int32)), .val (.int (2 : Int32)), .val .null, .val (.ref r_292)] [(.ref a)]))
  refine own_st (fun u_ k_ => XS.aload X301.here hx rfl (hb hby own_d_jdk_42_149_52) rfl rfl k_) ?_
  show own_Go p e below _ (T301.setTop (mkF m 54 #[.val (.ref a), .val (.ref b), .val (.int (0 : Int32)), .val (.int (2 : Int32)), .val .null, .val (.ref r_292)] [(.ref r_292), (.ref a)]))
  have F303 := (Exa.wr W301 F299)
  have F304 := (Fld.other W301 (F1.keep K291 nin0) (Or.inr (own_sn_168 hw)))
  obtain ⟨T305, h305, X305, e305, W305, st305⟩ := putF X301 hx hZ hown (host := "") (Or.inl (own_w hw 29 rfl)) Via.refl e301 F304 F303 (Or.inr ⟨(own_w hw 30 rfl), rfl, hnm⟩) (own_w hw 3 rfl) (ty := (.array .byte)) own_lm_167 rfl rfl (g := (mkF m 54 #[.val (.ref a), .val (.ref b), .val (.int (0 : Int32)), .val (.int (2 : Int32)), .val .null, .val (.ref r_292)] [(.ref r_292), (.ref a)])) rfl rfl (hb hby own_d_jdk_42_149_54)
  have N305 := Fr.snoc X305 N301 ga
  have F306 : Fld Z h305 a "java/lang/String" "value" "[B" (.ref r_292) := Fld.same W305 F304
  refine own_st (fun u_ k_ => st305 u_ k_) ?_
  show own_Go p e below _ (T305.setTop (mkF m 57 #[.val (.ref a), .val (.ref b), .val (.int (0 : Int32)), .val (.int (2 : Int32)), .val .null, .val (.ref r_292)] []))
  have K307 : Keep h0 T291.heap [a] := (Keep.refl h0 [a]).trans K291 all0
  have K308 : Keep h0 h301 [a] := K307.wr W301 (Or.inl (List.mem_of_getElem? (i := 0) rfl))
  have K309 : Keep h0 h305 [a] := K308.wr W305 (Or.inl (List.mem_of_getElem? (i := 0) rfl))
  have z310 : h0.size ≤ r_292 := Nat.le_trans (Nat.le_refl _) z294
  have F311 := (Exa.wr W305 F303)
  have F312 := (Fld.other W305 F302 (Or.inr (own_sn_171 hw)))
  have F313 := (Exa.wr W305 (Exa.wr W301 F295))
  have ne314 : r_292 ≠ a := (Ne.symm (Nat.ne_of_lt (Nat.lt_of_lt_of_le E.lt z294)))
  have F315 := ((F296.other W301 ne314).other W305 ne314)
  exact own_retV X305 hx hlk hret (hb hby own_d_jdk_42_149_57) (by decide) (by decide) (show QrmS4_2_0 Z wcs a b kb v0 v1 h0 n0 none T305.heap _ from (by rw [e305]; exact ⟨r_292, kr_293, rfl, N305, K309, z310, F311, F306, F312, F313, F315⟩))
theorem own_lm_202 : ("[C" : String) ≠ "[B" := by decide +kernel
theorem own_ef_rmCp2_1 (m : MethodId) (a : Addr) (b : Addr)  : entryFrame m #[(.ref a), (.int (0 : Int32)), (.ref b), (.int (0 : Int32)), (.int (2 : Int32))] 7 = mkF m 0 #[.val (.ref a), .val (.int (0 : Int32)), .val (.ref b), .val (.int (0 : Int32)), .val (.int (2 : Int32)), .unset, .unset] [] := by first | (simp [entryFrame, mkF, argsToLocals, Value.category, maxLocals]; done) | rfl
def QrmCp2_1 (Z : State) (wcs : Int32) (a : Addr) (ka : ClassId) (b : Addr) (kb : ClassId) (v0 : Int32) (v1 : Int32) (h0 : Heap) (n0 : Nat) (v : Option Value) (h : Heap) (L : List Loc) : Prop := v = some (.int (1 : Int32)) ∧ Fr n0 L ∧ Keep h0 h [b] ∧ Exa Z h b "[B"
set_option maxRecDepth 65536 in
set_option maxHeartbeats 40000000 in
theorem rmCp2_1 (l : Launch) (Z : State) (a0 : Array Value) (hw : own_H a0 Z) (ws : List Jvm.Cond) (wcs : Int32) (hS : own_S Z wcs) (a : Addr) (ka : ClassId) (b : Addr) (kb : ClassId) (v0 : Int32) (v1 : Int32) (h0 : Heap) (n0 : Nat) (O0 : Old Z n0 h0) (Ea : Exa Z h0 a "[C") (Eb : Exa Z h0 b "[B") (gb : n0 ≤ b) (A1 : Arv Z h0 a ka .char (2 : Int32) [(.int v0), (.int v1)] (.int (0 : Int32))) (A2 : Arv Z h0 b kb .byte (2 : Int32) [(.int (0 : Int32)), (.int (0 : Int32))] (.int (0 : Int32))) (q0 : ¬ (255 : Int32) < v0) (q1 : (255 : Int32) < v1) :
    own_Met l own_y_14 jdk_52_method_21_code 7 (some .int) ws ({ frames := 0, cells := 0, slots := 0, locals := 0 } : Room) Z h0 #[(.ref a), (.int (0 : Int32)), (.ref b), (.int (0 : Int32)), (.int (2 : Int32))] (QrmCp2_1 Z wcs a ka b kb v0 v1 h0 n0) := by
  refine own_body (plainFor_of_name own_pn_15) ?_
  intro p e s m below meth c s₁ hx hby hml hown hnm hret hlk hZ e0 X0
  have N0 := Fr.nil n0
  refine own_st (fun u_ k_ => castTop (own_ef_rmCp2_1 m a b) k_) ?_
  show own_Go p e below _ (s₁.setTop (mkF m 0 #[.val (.ref a), .val (.int (0 : Int32)), .val (.ref b), .val (.int (0 : Int32)), .val (.int (2 : Int32)), .unset, .unset] []))
  refine own_st (fun u_ k_ => XS.iconst X0.here hx rfl (hb hby own_d_jdk_52_21_0) k_) ?_
  show own_Go p e below _ (s₁.setTop (mkF m 1 #[.val (.ref a), .val (.int (0 : Int32)), .val (.ref b), .val (.int (0 : Int32)), .val (.int (2 : Int32)), .unset, .unset] [(.int (0 : Int32))]))
  refine own_st (fun u_ k_ => XS.istore X0.here hx rfl (hb hby own_d_jdk_52_21_1) rfl (l' := #[.val (.ref a), .val (.int (0 : Int32)), .val (.ref b), .val (.int (0 : Int32)), .val (.int (2 : Int32)), .val (.int (0 : Int32)), .unset]) rfl k_) ?_
  show own_Go p e below _ (s₁.setTop (mkF m 3 #[.val (.ref a), .val (.int (0 : Int32)), .val (.ref b), .val (.int (0 : Int32)), .val (.int (2 : Int32)), .val (.int (0 : Int32)), .unset] []))
  refine own_st (fun u_ k_ => XS.iload X0.here hx rfl (hb hby own_d_jdk_52_21_3) rfl k_) ?_
  show own_Go p e below _ (s₁.setTop (mkF m 5 #[.val (.ref a), .val (.int (0 : Int32)), .val (.ref b), .val (.int (0 : Int32)), .val (.int (2 : Int32)), .val (.int (0 : Int32)), .unset] [(.int (0 : Int32))]))
  refine own_st (fun u_ k_ => XS.iload X0.here hx rfl (hb hby own_d_jdk_52_21_5) rfl k_) ?_
  show own_Go p e below _ (s₁.setTop (mkF m 7 #[.val (.ref a), .val (.int (0 : Int32)), .val (.ref b), .val (.int (0 : Int32)), .val (.int (2 : Int32)), .val (.int (0 : Int32)), .unset] [(.int (2 : Int32)), (.int (0 : Int32))]))
  refine own_st (fun u_ k_ => XS.icmpNo X0.here hx rfl (hb hby own_d_jdk_52_21_7) rfl (XT.ii_ge_f (by decide)) k_) ?_
  show own_Go p e below _ (s₁.setTop (mkF m 10 #[.val (.ref a), .val (.int (0 : Int32)), .val (.ref b), .val (.int (0 : Int32)), .val (.int (2 : Int32)), .val (.int (0 : Int32)), .unset] []))
  refine own_st (fun u_ k_ => XS.aloadN X0.here hx rfl (hb hby own_d_jdk_52_21_10) rfl rfl k_) ?_
  show own_Go p e below _ (s₁.setTop (mkF m 11 #[.val (.ref a), .val (.int (0 : Int32)), .val (.ref b), .val (.int (0 : Int32)), .val (.int (2 : Int32)), .val (.int (0 : Int32)), .unset] [(.ref a)]))
  refine own_st (fun u_ k_ => XS.iloadN X0.here hx rfl (hb hby own_d_jdk_52_21_11) rfl k_) ?_
  show own_Go p e below _ (s₁.setTop (mkF m 12 #[.val (.ref a), .val (.int (0 : Int32)), .val (.ref b), .val (.int (0 : Int32)), .val (.int (2 : Int32)), .val (.int (0 : Int32)), .unset] [(.int (0 : Int32)), (.ref a)]))
  obtain ⟨cl328, Ar328, q328, S328, N328, H328, G328⟩ := id A1
  have hi328 : ¬ ((0 : Int32) < 0 ∨ cl328.slots.size ≤ ((0 : Int32)).toNatClampNeg) := inb_of S328 ⟨by decide, by decide⟩
  have ha328 : cl328.slots[((0 : Int32)).toNatClampNeg]? = some (.int v0) := H328.at hi328 rfl
  refine own_st (X0.caload hx (j := (0 : Int32)) (v := (.int v0)) (by rw [e0]; exact Ar328.1) (State.isArrayOf_alike hZ.alike Ar328.2.1) Ar328.2.2 hi328 ha328 (g := (mkF m 12 #[.val (.ref a), .val (.int (0 : Int32)), .val (.ref b), .val (.int (0 : Int32)), .val (.int (2 : Int32)), .val (.int (0 : Int32)), .unset] [(.int (0 : Int32)), (.ref a)])) rfl rfl (hb hby own_d_jdk_52_21_12)) ?_
  show own_Go p e below _ (s₁.setTop (mkF m 13 #[.val (.ref a), .val (.int (0 : Int32)), .val (.ref b), .val (.int (0 : Int32)), .val (.int (2 : Int32)), .val (.int (0 : Int32)), .unset] [(.int v0)]))
  refine own_st (fun u_ k_ => XS.istore X0.here hx rfl (hb hby own_d_jdk_52_21_13) rfl (l' := #[.val (.ref a), .val (.int (0 : Int32)), .val (.ref b), .val (.int (0 : Int32)), .val (.int (2 : Int32)), .val (.int (0 : Int32)), .val (.int v0)]) rfl k_) ?_
  show own_Go p e below _ (s₁.setTop (mkF m 15 #[.val (.ref a), .val (.int (0 : Int32)), .val (.ref b), .val (.int (0 : Int32)), .val (.int (2 : Int32)), .val (.int (0 : Int32)), .val (.int v0)] []))
  refine own_st (fun u_ k_ => XS.iload X0.here hx rfl (hb hby own_d_jdk_52_21_15) rfl k_) ?_
  show own_Go p e below _ (s₁.setTop (mkF m 17 #[.val (.ref a), .val (.int (0 : Int32)), .val (.ref b), .val (.int (0 : Int32)), .val (.int (2 : Int32)), .val (.int (0 : Int32)), .val (.int v0)] [(.int v0)]))
  refine own_st (fun u_ k_ => XS.sipush X0.here hx rfl (hb hby own_d_jdk_52_21_17) k_) ?_
  show own_Go p e below _ (s₁.setTop (mkF m 20 #[.val (.ref a), .val (.int (0 : Int32)), .val (.ref b), .val (.int (0 : Int32)), .val (.int (2 : Int32)), .val (.int (0 : Int32)), .val (.int v0)] [(.int (255 : Int32)), (.int v0)]))
  refine own_st (fun u_ k_ => XS.icmpYes X0.here hx rfl (pc0 := 20) (pc' := 26) rfl (hb hby own_d_jdk_52_21_20) rfl (XT.ii_le_t q0) (by decide) (by decide) k_) ?_
  show own_Go p e below _ (s₁.setTop (mkF m 26 #[.val (.ref a), .val (.int (0 : Int32)), .val (.ref b), .val (.int (0 : Int32)), .val (.int (2 : Int32)), .val (.int (0 : Int32)), .val (.int v0)] []))
  refine own_st (fun u_ k_ => XS.aloadN X0.here hx rfl (hb hby own_d_jdk_52_21_26) rfl rfl k_) ?_
  show own_Go p e below _ (s₁.setTop (mkF m 27 #[.val (.ref a), .val (.int (0 : Int32)), .val (.ref b), .val (.int (0 : Int32)), .val (.int (2 : Int32)), .val (.int (0 : Int32)), .val (.int v0)] [(.ref b)]))
  refine own_st (fun u_ k_ => XS.iloadN X0.here hx rfl (hb hby own_d_jdk_52_21_27) rfl k_) ?_
  show own_Go p e below _ (s₁.setTop (mkF m 28 #[.val (.ref a), .val (.int (0 : Int32)), .val (.ref b), .val (.int (0 : Int32)), .val (.int (2 : Int32)), .val (.int (0 : Int32)), .val (.int v0)] [(.int (0 : Int32)), (.ref b)]))
  refine own_st (fun u_ k_ => XS.iload X0.here hx rfl (hb hby own_d_jdk_52_21_28) rfl k_) ?_
  show own_Go p e below _ (s₁.setTop (mkF m 30 #[.val (.ref a), .val (.int (0 : Int32)), .val (.ref b), .val (.int (0 : Int32)), .val (.int (2 : Int32)), .val (.int (0 : Int32)), .val (.int v0)] [(.int v0), (.int (0 : Int32)), (.ref b)]))
  refine own_st (fun u_ k_ => XS.i2b X0.here hx rfl (hb hby own_d_jdk_52_21_30) rfl k_) ?_
  show own_Go p e below _ (s₁.setTop (mkF m 31 #[.val (.ref a), .val (.int (0 : Int32)), .val (.ref b), .val (.int (0 : Int32)), .val (.int (2 : Int32)), .val (.int (0 : Int32)), .val (.int v0)] [(.int (v0.toInt8.toInt32)), (.int (0 : Int32)), (.ref b)]))
  obtain ⟨cl329, Ar329, q329, S329, N329, H329, G329⟩ := id A2
  have hi329 : ¬ ((0 : Int32) < 0 ∨ cl329.slots.size ≤ ((0 : Int32)).toNatClampNeg) := inb_of S329 ⟨by decide, by decide⟩
  obtain ⟨T330, h330, X330, e330, W330, st330⟩ := stB X0 hx hZ e0 Ar329 (j := (0 : Int32)) hi329 (g := (mkF m 31 #[.val (.ref a), .val (.int (0 : Int32)), .val (.ref b), .val (.int (0 : Int32)), .val (.int (2 : Int32)), .val (.int (0 : Int32)), .val (.int v0)] [(.int (v0.toInt8.toInt32)), (.int (0 : Int32)), (.ref b)])) rfl rfl (hb hby own_d_jdk_52_21_31)
  rw [own_bb] at W330
  have N330 := Fr.snoc X330 N0 gb
  have V330 : Arv Z h330 b kb .byte (2 : Int32) [(.int (v0.toInt8.toInt32)), (.int (0 : Int32))] (.int (0 : Int32)) := Arv.set Ar329 q329 S329 N329 H329 G329 (fits_nar_byte _) W330 0 rfl (Nat.le_of_ble_eq_true rfl)
  refine own_st (fun u_ k_ => st330 u_ k_) ?_
  show own_Go p e below _ (T330.setTop (mkF m 32 #[.val (.ref a), .val (.int (0 : Int32)), .val (.ref b), .val (.int (0 : Int32)), .val (.int (2 : Int32)), .val (.int (0 : Int32)), .val (.int v0)] []))
  refine own_st (fun u_ k_ => XS.iinc X330.here hx rfl (hb hby own_d_jdk_52_21_32) rfl (l' := #[.val (.ref a), .val (.int (1 : Int32)), .val (.ref b), .val (.int (0 : Int32)), .val (.int (2 : Int32)), .val (.int (0 : Int32)), .val (.int v0)]) rfl k_) ?_
  show own_Go p e below _ (T330.setTop (mkF m 35 #[.val (.ref a), .val (.int (1 : Int32)), .val (.ref b), .val (.int (0 : Int32)), .val (.int (2 : Int32)), .val (.int (0 : Int32)), .val (.int v0)] []))
  refine own_st (fun u_ k_ => XS.iinc X330.here hx rfl (hb hby own_d_jdk_52_21_35) rfl (l' := #[.val (.ref a), .val (.int (1 : Int32)), .val (.ref b), .val (.int (1 : Int32)), .val (.int (2 : Int32)), .val (.int (0 : Int32)), .val (.int v0)]) rfl k_) ?_
  show own_Go p e below _ (T330.setTop (mkF m 38 #[.val (.ref a), .val (.int (1 : Int32)), .val (.ref b), .val (.int (1 : Int32)), .val (.int (2 : Int32)), .val (.int (0 : Int32)), .val (.int v0)] []))
  refine own_st (fun u_ k_ => XS.iinc X330.here hx rfl (hb hby own_d_jdk_52_21_38) rfl (l' := #[.val (.ref a), .val (.int (1 : Int32)), .val (.ref b), .val (.int (1 : Int32)), .val (.int (2 : Int32)), .val (.int (1 : Int32)), .val (.int v0)]) rfl k_) ?_
  show own_Go p e below _ (T330.setTop (mkF m 41 #[.val (.ref a), .val (.int (1 : Int32)), .val (.ref b), .val (.int (1 : Int32)), .val (.int (2 : Int32)), .val (.int (1 : Int32)), .val (.int v0)] []))
  refine own_st (fun u_ k_ => XS.goto X330.here hx rfl (pc0 := 41) (pc' := 3) rfl (hb hby own_d_jdk_52_21_41) (by decide) (by decide) k_) ?_
  show own_Go p e below _ (T330.setTop (mkF m 3 #[.val (.ref a), .val (.int (1 : Int32)), .val (.ref b), .val (.int (1 : Int32)), .val (.int (2 : Int32)), .val (.int (1 : Int32)), .val (.int v0)] []))
  refine own_st (fun u_ k_ => XS.iload X330.here hx rfl (hb hby own_d_jdk_52_21_3) rfl k_) ?_
  show own_Go p e below _ (T330.setTop (mkF m 5 #[.val (.ref a), .val (.int (1 : Int32)), .val (.ref b), .val (.int (1 : Int32)), .val (.int (2 : Int32)), .val (.int (1 : Int32)), .val (.int v0)] [(.int (1 : Int32))]))
  refine own_st (fun u_ k_ => XS.iload X330.here hx rfl (hb hby own_d_jdk_52_21_5) rfl k_) ?_
  show own_Go p e below _ (T330.setTop (mkF m 7 #[.val (.ref a), .val (.int (1 : Int32)), .val (.ref b), .val (.int (1 : Int32)), .val (.int (2 : Int32)), .val (.int (1 : Int32)), .val (.int v0)] [(.int (2 : Int32)), (.int (1 : Int32))]))
  refine own_st (fun u_ k_ => XS.icmpNo X330.here hx rfl (hb hby own_d_jdk_52_21_7) rfl (XT.ii_ge_f (by decide)) k_) ?_
  show own_Go p e below _ (T330.setTop (mkF m 10 #[.val (.ref a), .val (.int (1 : Int32)), .val (.ref b), .val (.int (1 : Int32)), .val (.int (2 : Int32)), .val (.int (1 : Int32)), .val (.int v0)] []))
  refine own_st (fun u_ k_ => XS.aloadN X330.here hx rfl (hb hby own_d_jdk_52_21_10) rfl rfl k_) ?_
  show own_Go p e below _ (T330.setTop (mkF m 11 #[.val (.ref a), .val (.int (1 : Int32)), .val (.ref b), .val (.int (1 : Int32)), .val (.int (2 : Int32)), .val (.int (1 : Int32)), .val (.int v0)] [(.ref a)]))
  refine own_st (fun u_ k_ => XS.iloadN X330.here hx rfl (hb hby own_d_jdk_52_21_11) rfl k_) ?_
  show own_Go p e below _ (T330.setTop (mkF m 12 #[.val (.ref a), .val (.int (1 : Int32)), .val (.ref b), .val (.int (1 : Int32)), .val (.int (2 : Int32)), .val (.int (1 : Int32)), .val (.int v0)] [(.int (1 : Int32)), (.ref a)]))
  have ne331 : a ≠ b := (ne_exa Ea Eb own_lm_202)
  have F332 := (A1.other W330 ne331)
  obtain ⟨cl333, Ar333, q333, S333, N333, H333, G333⟩ := id F332
  have hi333 : ¬ ((1 : Int32) < 0 ∨ cl333.slots.size ≤ ((1 : Int32)).toNatClampNeg) := inb_of S333 ⟨by decide, by decide⟩
  have ha333 : cl333.slots[((1 : Int32)).toNatClampNeg]? = some (.int v1) := H333.at hi333 rfl
  refine own_st (X330.caload hx (j := (1 : Int32)) (v := (.int v1)) (by rw [e330]; exact Ar333.1) (State.isArrayOf_alike hZ.alike Ar333.2.1) Ar333.2.2 hi333 ha333 (g := (mkF m 12 #[.val (.ref a), .val (.int (1 : Int32)), .val (.ref b), .val (.int (1 : Int32)), .val (.int (2 : Int32)), .val (.int (1 : Int32)), .val (.int v0)] [(.int (1 : Int32)), (.ref a)])) rfl rfl (hb hby own_d_jdk_52_21_12)) ?_
  show own_Go p e below _ (T330.setTop (mkF m 13 #[.val (.ref a), .val (.int (1 : Int32)), .val (.ref b), .val (.int (1 : Int32)), .val (.int (2 : Int32)), .val (.int (1 : Int32)), .val (.int v0)] [(.int v1)]))
  refine own_st (fun u_ k_ => XS.istore X330.here hx rfl (hb hby own_d_jdk_52_21_13) rfl (l' := #[.val (.ref a), .val (.int (1 : Int32)), .val (.ref b), .val (.int (1 : Int32)), .val (.int (2 : Int32)), .val (.int (1 : Int32)), .val (.int v1)]) rfl k_) ?_
  show own_Go p e below _ (T330.setTop (mkF m 15 #[.val (.ref a), .val (.int (1 : Int32)), .val (.ref b), .val (.int (1 : Int32)), .val (.int (2 : Int32)), .val (.int (1 : Int32)), .val (.int v1)] []))
  refine own_st (fun u_ k_ => XS.iload X330.here hx rfl (hb hby own_d_jdk_52_21_15) rfl k_) ?_
  show own_Go p e below _ (T330.setTop (mkF m 17 #[.val (.ref a), .val (.int (1 : Int32)), .val (.ref b), .val (.int (1 : Int32)), .val (.int (2 : Int32)), .val (.int (1 : Int32)), .val (.int v1)] [(.int v1)]))
  refine own_st (fun u_ k_ => XS.sipush X330.here hx rfl (hb hby own_d_jdk_52_21_17) k_) ?_
  show own_Go p e below _ (T330.setTop (mkF m 20 #[.val (.ref a), .val (.int (1 : Int32)), .val (.ref b), .val (.int (1 : Int32)), .val (.int (2 : Int32)), .val (.int (1 : Int32)), .val (.int v1)] [(.int (255 : Int32)), (.int v1)]))
  refine own_st (fun u_ k_ => XS.icmpNo X330.here hx rfl (hb hby own_d_jdk_52_21_20) rfl (XT.ii_le_f q1) k_) ?_
  show own_Go p e below _ (T330.setTop (mkF m 23 #[.val (.ref a), .val (.int (1 : Int32)), .val (.ref b), .val (.int (1 : Int32)), .val (.int (2 : Int32)), .val (.int (1 : Int32)), .val (.int v1)] []))
  refine own_st (fun u_ k_ => XS.iload X330.here hx rfl (hb hby own_d_jdk_52_21_23) rfl k_) ?_
  show own_Go p e below _ (T330.setTop (mkF m 25 #[.val (.ref a), .val (.int (1 : Int32)), .val (.ref b), .val (.int (1 : Int32)), .val (.int (2 : Int32)), .val (.int (1 : Int32)), .val (.int v1)] [(.int (1 : Int32))]))
  have K334 : Keep h0 h330 [b] := (Keep.refl h0 [b]).wr W330 (Or.inl (List.mem_of_getElem? (i := 0) rfl))
  have F335 := (Exa.wr W330 Eb)
  exact own_retX X330 hx hlk hret rfl (Or.inl ⟨rfl, by simp, _, rfl⟩) (hb hby own_d_jdk_52_21_25) (by decide) (by decide) (show QrmCp2_1 Z wcs a ka b kb v0 v1 h0 n0 (some (.int (1 : Int32))) T330.heap _ from (by rw [e330]; exact ⟨rfl, N330, K334, F335⟩))
theorem own_ef_rmCq2_1 (m : MethodId) (a : Addr)  : entryFrame m #[(.ref a), (.int (0 : Int32)), (.int (2 : Int32))] 6 = mkF m 0 #[.val (.ref a), .val (.int (0 : Int32)), .val (.int (2 : Int32)), .unset, .unset, .unset] [] := by first | (simp [entryFrame, mkF, argsToLocals, Value.category, maxLocals]; done) | rfl
def QrmCq2_1 (Z : State) (wcs : Int32) (a : Addr) (ka : ClassId) (v0 : Int32) (v1 : Int32) (h0 : Heap) (n0 : Nat) (v : Option Value) (h : Heap) (L : List Loc) : Prop := ∃ r : Addr, ∃ kr : ClassId, v = some (.ref r) ∧ Fr n0 L ∧ Keep h0 h [] ∧ h0.size ≤ r ∧ Exa Z h r "[B" ∧ Arv Z h r kr .byte (4 : Int32) [(.int ((v0 >>> ((0 : Int32) &&& 31)).toInt8.toInt32)), (.int ((v0 >>> ((8 : Int32) &&& 31)).toInt8.toInt32)), (.int ((v1 >>> ((0 : Int32) &&& 31)).toInt8.toInt32)), (.int ((v1 >>> ((8 : Int32) &&& 31)).toInt8.toInt32))] (.int (0 : Int32))
set_option maxRecDepth 65536 in
set_option maxHeartbeats 40000000 in
theorem rmCq2_1 (l : Launch) (Z : State) (a0 : Array Value) (hw : own_H a0 Z) (ws : List Jvm.Cond) (wcs : Int32) (hS : own_S Z wcs) (a : Addr) (ka : ClassId) (v0 : Int32) (v1 : Int32) (h0 : Heap) (n0 : Nat) (O0 : Old Z n0 h0) (Ea : Exa Z h0 a "[C") (A1 : Arv Z h0 a ka .char (2 : Int32) [(.int v0), (.int v1)] (.int (0 : Int32))) (q0 : ¬ (255 : Int32) < v0) (q1 : (255 : Int32) < v1) (w0 : own_C16 v0) (w1 : own_C16 v1) :
    own_Met l own_y_134 jdk_52_method_16_code 6 (some (.array .byte)) ws ({ frames := 3, cells := 2, slots := 6, locals := 40 } : Room) Z h0 #[(.ref a), (.int (0 : Int32)), (.int (2 : Int32))] (QrmCq2_1 Z wcs a ka v0 v1 h0 n0) := by
  refine own_body (plainFor_of_name own_pn_15) ?_
  intro p e s m below meth c s₁ hx hby hml hown hnm hret hlk hZ e0 X0
  have N0 := Fr.nil n0
  refine own_st (fun u_ k_ => castTop (own_ef_rmCq2_1 m a) k_) ?_
  show own_Go p e below _ (s₁.setTop (mkF m 0 #[.val (.ref a), .val (.int (0 : Int32)), .val (.int (2 : Int32)), .unset, .unset, .unset] []))
  refine own_st (fun u_ k_ => XS.iloadN X0.here hx rfl (hb hby own_d_jdk_52_16_0) rfl k_) ?_
  show own_Go p e below _ (s₁.setTop (mkF m 1 #[.val (.ref a), .val (.int (0 : Int32)), .val (.int (2 : Int32)), .unset, .unset, .unset] [(.int (2 : Int32))]))
  obtain ⟨T336, h336, k336, X336, e336, E336, A336, Y336, st336⟩ := newPE X0 hx hZ (own_w hw 20 rfl) e0 (g := (mkF m 1 #[.val (.ref a), .val (.int (0 : Int32)), .val (.int (2 : Int32)), .unset, .unset, .unset] [(.int (2 : Int32))])) rfl (hb hby own_d_jdk_52_16_1) rfl (by decide) (cap := 2) (by decide) (by decide) (by decide) (by decide) (ad := "[B") own_lm_31
  obtain ⟨b336, g336⟩ : ∃ z, z = h0.size := ⟨_, rfl⟩
  rw [← g336] at A336 Y336 st336
  have V336 : Arv Z h336 b336 k336 .byte (2 : Int32) [(.int (0 : Int32)), (.int (0 : Int32))] (.int (0 : Int32)) := (Arv.new A336 (by decide)).pad (pad_rep [] (.int (0 : Int32)) 2)
  refine own_st (fun u_ k_ => st336 u_ k_) ?_
  show own_Go p e below _ (T336.setTop (mkF m 3 #[.val (.ref a), .val (.int (0 : Int32)), .val (.int (2 : Int32)), .unset, .unset, .unset] [(.ref b336)]))
  refine own_st (fun u_ k_ => XS.astoreN X336.here hx rfl (hb hby own_d_jdk_52_16_3) rfl rfl (l' := #[.val (.ref a), .val (.int (0 : Int32)), .val (.int (2 : Int32)), .val (.ref b336), .unset, .unset]) rfl k_) ?_
  show own_Go p e below _ (T336.setTop (mkF m 4 #[.val (.ref a), .val (.int (0 : Int32)), .val (.int (2 : Int32)), .val (.ref b336), .unset, .unset] []))
  refine own_st (fun u_ k_ => XS.aloadN X336.here hx rfl (hb hby own_d_jdk_52_16_4) rfl rfl k_) ?_
  show own_Go p e below _ (T336.setTop (mkF m 5 #[.val (.ref a), .val (.int (0 : Int32)), .val (.int (2 : Int32)), .val (.ref b336), .unset, .unset] [(.ref a)]))
  refine own_st (fun u_ k_ => XS.iloadN X336.here hx rfl (hb hby own_d_jdk_52_16_5) rfl k_) ?_
  show own_Go p e below _ (T336.setTop (mkF m 6 #[.val (.ref a), .val (.int (0 : Int32)), .val (.int (2 : Int32)), .val (.ref b336), .unset, .unset] [(.int (0 : Int32)), (.ref a)]))
  refine own_st (fun u_ k_ => XS.aloadN X336.here hx rfl (hb hby own_d_jdk_52_16_6) rfl rfl k_) ?_
  show own_Go p e below _ (T336.setTop (mkF m 7 #[.val (.ref a), .val (.int (0 : Int32)), .val (.int (2 : Int32)), .val (.ref b336), .unset, .unset] [(.ref b336), (.int (0 : Int32)), (.ref a)]))
  refine own_st (fun u_ k_ => XS.iconst X336.here hx rfl (hb hby own_d_jdk_52_16_7) k_) ?_
  show own_Go p e below _ (T336.setTop (mkF m 8 #[.val (.ref a), .val (.int (0 : Int32)), .val (.int (2 : Int32)), .val (.ref b336), .unset, .unset] [(.int (0 : Int32)), (.ref b336), (.int (0 : Int32)), (.ref a)]))
  refine own_st (fun u_ k_ => XS.iloadN X336.here hx rfl (hb hby own_d_jdk_52_16_8) rfl k_) ?_
  show own_Go p e below _ (T336.setTop (mkF m 9 #[.val (.ref a), .val (.int (0 : Int32)), .val (.int (2 : Int32)), .val (.ref b336), .unset, .unset] [(.int (2 : Int32)), (.int (0 : Int32)), (.ref b336), (.int (0 : Int32)), (.ref a)]))
  have F337 := (Exa.ext E336 Ea)
  have g338 : n0 ≤ b336 := Nat.le_trans (own_nl O0) (Nat.le_of_eq g336.symm)
  have F339 := (A1.ext E336)
  have O341 : Old Z n0 h336 := O0.ext E336
  obtain ⟨T340, v340, L340, X340, hQ340, st340⟩ := own_callS X336 hx hZ (y := own_y_14) hown (own_w hw 21 rfl) (own_w hw 22 rfl) (own_w hw 18 rfl) (own_w hw 23 rfl) own_lm_28 (rmCp2_1 l Z a0 hw [] wcs hS a ka b336 k336 v0 v1 h336 n0 O341 F337 Y336 g338 F339 V336 (by assumption) (by assumption)) e336 own_pd_115 (argsL := [(.ref a), (.int (0 : Int32)), (.ref b336), (.int (0 : Int32)), (.int (2 : Int32))]) (rest := []) rfl rfl (g := (mkF m 9 #[.val (.ref a), .val (.int (0 : Int32)), .val (.int (2 : Int32)), .val (.ref b336), .unset, .unset] [(.int (2 : Int32)), (.int (0 : Int32)), (.ref b336), (.int (0 : Int32)), (.ref a)])) rfl (by rw [hml]; rfl) rfl (hb hby own_d_jdk_52_16_9) (W := 0) rfl (by decide) (by decide) (by decide) (by decide)
  obtain ⟨rfl, M340, K340, F342⟩ := hQ340
  have N340 := Fr.app N0 M340
  refine own_st (fun u_ k_ => st340 u_ k_) ?_
  show own_Go p e below _ (T340.setTop (mkF m 12 #[.val (.ref a), .val (.int (0 : Int32)), .val (.int (2 : Int32)), .val (.ref b336), .unset, .unset] [(.int (1 : Int32))]))
  refine own_st (fun u_ k_ => XS.istore X340.here hx rfl (hb hby own_d_jdk_52_16_12) rfl (l' := #[.val (.ref a), .val (.int (0 : Int32)), .val (.int (2 : Int32)), .val (.ref b336), .val (.int (1 : Int32)), .unset]) rfl k_) ?_
  show own_Go p e below _ (T340.setTop (mkF m 14 #[.val (.ref a), .val (.int (0 : Int32)), .val (.int (2 : Int32)), .val (.ref b336), .val (.int (1 : Int32)), .unset] []))
  refine own_st (fun u_ k_ => XS.iload X340.here hx rfl (hb hby own_d_jdk_52_16_14) rfl k_) ?_
  show own_Go p e below _ (T340.setTop (mkF m 16 #[.val (.ref a), .val (.int (0 : Int32)), .val (.int (2 : Int32)), .val (.ref b336), .val (.int (1 : Int32)), .unset] [(.int (1 : Int32))]))
  refine own_st (fun u_ k_ => XS.iloadN X340.here hx rfl (hb hby own_d_jdk_52_16_16) rfl k_) ?_
  show own_Go p e below _ (T340.setTop (mkF m 17 #[.val (.ref a), .val (.int (0 : Int32)), .val (.int (2 : Int32)), .val (.ref b336), .val (.int (1 : Int32)), .unset] [(.int (2 : Int32)), (.int (1 : Int32))]))
  refine own_st (fun u_ k_ => XS.icmpNo X340.here hx rfl (hb hby own_d_jdk_52_16_17) rfl (XT.ii_eq_f (by decide)) k_) ?_
  show own_Go p e below _ (T340.setTop (mkF m 20 #[.val (.ref a), .val (.int (0 : Int32)), .val (.int (2 : Int32)), .val (.ref b336), .val (.int (1 : Int32)), .unset] []))
  refine own_st (fun u_ k_ => XS.aloadN X340.here hx rfl (hb hby own_d_jdk_52_16_20) rfl rfl k_) ?_
  show own_Go p e below _ (T340.setTop (mkF m 21 #[.val (.ref a), .val (.int (0 : Int32)), .val (.int (2 : Int32)), .val (.ref b336), .val (.int (1 : Int32)), .unset] [(.ref a)]))
  refine own_st (fun u_ k_ => XS.iloadN X340.here hx rfl (hb hby own_d_jdk_52_16_21) rfl k_) ?_
  show own_Go p e below _ (T340.setTop (mkF m 22 #[.val (.ref a), .val (.int (0 : Int32)), .val (.int (2 : Int32)), .val (.ref b336), .val (.int (1 : Int32)), .unset] [(.int (0 : Int32)), (.ref a)]))
  refine own_st (fun u_ k_ => XS.iloadN X340.here hx rfl (hb hby own_d_jdk_52_16_22) rfl k_) ?_
  show own_Go p e below _ (T340.setTop (mkF m 23 #[.val (.ref a), .val (.int (0 : Int32)), .val (.int (2 : Int32)), .val (.ref b336), .val (.int (1 : Int32)), .unset] [(.int (2 : Int32)), (.int (0 : Int32)), (.ref a)]))
  have F343 := (F337.keep K340)
  have ne344 : a ≠ b336 := (Nat.ne_of_lt (Nat.lt_of_lt_of_le Ea.lt (Nat.le_of_eq g336.symm)))
  have F345 := (F339.keep K340 (ninS ne344 nin0))
  have O347 : Old Z n0 T340.heap := O341.keep K340 (allS g338 all0)
  obtain ⟨T346, v346, L346, X346, hQ346, st346⟩ := own_callS X340 hx hZ (y := own_y_104) hown (own_w hw 59 rfl) (own_w hw 60 rfl) (own_w hw 18 rfl) (own_w hw 61 rfl) own_lm_28 (rmTB2 l Z a0 hw [] wcs hS a ka v0 v1 T340.heap n0 O347 F343 F345) rfl own_pd_124 (argsL := [(.ref a), (.int (0 : Int32)), (.int (2 : Int32))]) (rest := []) rfl rfl (g := (mkF m 23 #[.val (.ref a), .val (.int (0 : Int32)), .val (.int (2 : Int32)), .val (.ref b336), .val (.int (1 : Int32)), .unset] [(.int (2 : Int32)), (.int (0 : Int32)), (.ref a)])) rfl (by rw [hml]; rfl) rfl (hb hby own_d_jdk_52_16_23) (W := 0) rfl (by decide) (by decide) (by decide) (by decide)
  obtain ⟨r_348, kr_349, rfl, M346, K346, z350, F351, F352⟩ := hQ346
  have N346 := Fr.app N340 M346
  refine own_st (fun u_ k_ => st346 u_ k_) ?_
  show own_Go p e below _ (T346.setTop (mkF m 26 #[.val (.ref a), .val (.int (0 : Int32)), .val (.int (2 : Int32)), .val (.ref b336), .val (.int (1 : Int32)), .unset] [(.ref r_348)]))
  refine own_st (fun u_ k_ => XS.astore X346.here hx rfl (hb hby own_d_jdk_52_16_26) rfl rfl (l' := #[.val (.ref a), .val (.int (0 : Int32)), .val (.int (2 : Int32)), .val (.ref b336), .val (.int (1 : Int32)), .val (.ref r_348)]) rfl k_) ?_
  show own_Go p e below _ (T346.setTop (mkF m 28 #[.val (.ref a), .val (.int (0 : Int32)), .val (.int (2 : Int32)), .val (.ref b336), .val (.int (1 : Int32)), .val (.ref r_348)] []))
  refine own_st (fun u_ k_ => XS.aload X346.here hx rfl (hb hby own_d_jdk_52_16_28) rfl rfl k_) ?_
  show own_Go p e below _ (T346.setTop (mkF m 30 #[.val (.ref a), .val (.int (0 : Int32)), .val (.int (2 : Int32)), .val (.ref b336), .val (.int (1 : Int32)), .val (.ref r_348)] [(.ref r_348)]))
  refine own_st (fun u_ k_ => XS.iload X346.here hx rfl (hb hby own_d_jdk_52_16_30) rfl k_) ?_
  show own_Go p e below _ (T346.setTop (mkF m 32 #[.val (.ref a), .val (.int (0 : Int32)), .val (.int (2 : Int32)), .val (.ref b336), .val (.int (1 : Int32)), .val (.ref r_348)] [(.int (1 : Int32)), (.ref r_348)]))
  have O354 : Old Z n0 T346.heap := O347.keep K346 all0
  obtain ⟨T353, v353, L353, X353, hQ353, st353⟩ := own_callS X346 hx hZ (y := own_y_81) hown (own_w hw 75 rfl) (own_w hw 76 rfl) (own_w hw 18 rfl) (own_w hw 77 rfl) own_lm_28 (rmGC2_1 l Z a0 hw [] wcs hS r_348 kr_349 ((v0 >>> ((0 : Int32) &&& 31)).toInt8.toInt32) ((v0 >>> ((8 : Int32) &&& 31)).toInt8.toInt32) ((v1 >>> ((0 : Int32) &&& 31)).toInt8.toInt32) ((v1 >>> ((8 : Int32) &&& 31)).toInt8.toInt32) T346.heap n0 O354 F352) rfl own_pd_129 (argsL := [(.ref r_348), (.int (1 : Int32))]) (rest := []) rfl rfl (g := (mkF m 32 #[.val (.ref a), .val (.int (0 : Int32)), .val (.int (2 : Int32)), .val (.ref b336), .val (.int (1 : Int32)), .val (.ref r_348)] [(.int (1 : Int32)), (.ref r_348)])) rfl (by rw [hml]; rfl) rfl (hb hby own_d_jdk_52_16_32) (W := 0) rfl (by decide) (by decide) (by decide) (by decide)
  obtain ⟨rfl, M353, e353⟩ := hQ353
  have N353 := Fr.app N346 M353
  refine own_st (fun u_ k_ => st353 u_ k_) ?_
  show own_Go p e below _ (T353.setTop (mkF m 35 #[.val (.ref a), .val (.int (0 : Int32)), .val (.int (2 : Int32)), .val (.ref b336), .val (.int (1 : Int32)), .val (.ref r_348)] [(.int ((((((v1 >>> ((0 : Int32) &&& 31)).toInt8.toInt32) &&& (255 : Int32)) <<< ((0 : Int32) &&& 31)) ||| ((((v1 >>> ((8 : Int32) &&& 31)).toInt8.toInt32) &&& (255 : Int32)) <<< ((8 : Int32) &&& 31))).toUInt32.toUInt16.toUInt32.toInt32))]))
  refine own_st (fun u_ k_ => XS.sipush X353.here hx rfl (hb hby own_d_jdk_52_16_35) k_) ?_
  show own_Go p e below _ (T353.setTop (mkF m 38 #[.val (.ref a), .val (.int (0 : Int32)), .val (.int (2 : Int32)), .val (.ref b336), .val (.int (1 : Int32)), .val (.ref r_348)] [(.int (255 : Int32)), (.int ((((((v1 >>> ((0 : Int32) &&& 31)).toInt8.toInt32) &&& (255 : Int32)) <<< ((0 : Int32) &&& 31)) ||| ((((v1 >>> ((8 : Int32) &&& 31)).toInt8.toInt32) &&& (255 : Int32)) <<< ((8 : Int32) &&& 31))).toUInt32.toUInt16.toUInt32.toInt32))]))
  refine own_st (fun u_ k_ => XS.icmpYes X353.here hx rfl (pc0 := 38) (pc' := 54) rfl (hb hby own_d_jdk_52_16_38) rfl (XT.ii_gt_t (by rw [own_gc _ w1]; exact q1)) (by decide) (by decide) k_) ?_
  show own_Go p e below _ (T353.setTop (mkF m 54 #[.val (.ref a), .val (.int (0 : Int32)), .val (.int (2 : Int32)), .val (.ref b336), .val (.int (1 : Int32)), .val (.ref r_348)] []))
  refine own_st (fun u_ k_ => XS.aload X353.here hx rfl (hb hby own_d_jdk_52_16_54) rfl rfl k_) ?_
  show own_Go p e below _ (T353.setTop (mkF m 56 #[.val (.ref a), .val (.int (0 : Int32)), .val (.int (2 : Int32)), .val (.ref b336), .val (.int (1 : Int32)), .val (.ref r_348)] [(.ref r_348)]))
  have K355 : Keep h0 h336 [] := (Keep.refl h0 []).ext E336
  have z357 : h0.size ≤ b336 := Nat.le_trans (Nat.le_refl _) (Nat.le_of_eq g336.symm)
  have K356 : Keep h0 T340.heap [] := K355.trans K340 (allS (Or.inr z357) all0)
  have K358 : Keep h0 T346.heap [] := K356.trans K346 all0
  have z359 : h0.size ≤ r_348 := Nat.le_trans (Nat.le_trans E336.1 K340.1) z350
  exact own_retX X353 hx hlk hret rfl (Or.inr (Or.inr (Or.inr (Or.inr ⟨rfl, rfl, rfl⟩)))) (hb hby own_d_jdk_52_16_56) (by decide) (by decide) (show QrmCq2_1 Z wcs a ka v0 v1 h0 n0 (some (.ref r_348)) T353.heap _ from (by rw [e353]; exact ⟨r_348, kr_349, rfl, N353, K358, z359, F351, F352⟩))
theorem own_ef_rmS4_2_1 (m : MethodId) (a : Addr) (b : Addr)  : entryFrame m #[(.ref a), (.ref b), (.int (0 : Int32)), (.int (2 : Int32)), .null] 6 = mkF m 0 #[.val (.ref a), .val (.ref b), .val (.int (0 : Int32)), .val (.int (2 : Int32)), .val .null, .unset] [] := by first | (simp [entryFrame, mkF, argsToLocals, Value.category, maxLocals]; done) | rfl
def QrmS4_2_1 (Z : State) (wcs : Int32) (a : Addr) (b : Addr) (kb : ClassId) (v0 : Int32) (v1 : Int32) (h0 : Heap) (n0 : Nat) (v : Option Value) (h : Heap) (L : List Loc) : Prop := ∃ r : Addr, ∃ kr : ClassId, v = none ∧ Fr n0 L ∧ Keep h0 h [a] ∧ h0.size ≤ r ∧ Exa Z h a "java/lang/String" ∧ Fld Z h a "java/lang/String" "value" "[B" (.ref r) ∧ Fld Z h a "java/lang/String" "coder" "B" (.int (1 : Int32)) ∧ Exa Z h r "[B" ∧ Arv Z h r kr .byte (4 : Int32) [(.int ((v0 >>> ((0 : Int32) &&& 31)).toInt8.toInt32)), (.int ((v0 >>> ((8 : Int32) &&& 31)).toInt8.toInt32)), (.int ((v1 >>> ((0 : Int32) &&& 31)).toInt8.toInt32)), (.int ((v1 >>> ((8 : Int32) &&& 31)).toInt8.toInt32))] (.int (0 : Int32))
set_option maxRecDepth 65536 in
set_option maxHeartbeats 40000000 in
theorem rmS4_2_1 (l : Launch) (Z : State) (a0 : Array Value) (hw : own_H a0 Z) (ws : List Jvm.Cond) (wcs : Int32) (hS : own_S Z wcs) (a : Addr) (b : Addr) (kb : ClassId) (v0 : Int32) (v1 : Int32) (h0 : Heap) (n0 : Nat) (O0 : Old Z n0 h0) (E : Exa Z h0 a "java/lang/String") (Ea : Exa Z h0 b "[C") (ga : n0 ≤ a) (F1 : Fld Z h0 a "java/lang/String" "value" "[B" .null) (F2 : Fld Z h0 a "java/lang/String" "coder" "B" (.int (0 : Int32))) (A1 : Arv Z h0 b kb .char (2 : Int32) [(.int v0), (.int v1)] (.int (0 : Int32))) (q0 : ¬ (255 : Int32) < v0) (q1 : (255 : Int32) < v1) (w0 : own_C16 v0) (w1 : own_C16 v1) :
    own_Met l own_y_172 jdk_42_method_149_code 6 none ws ({ frames := 4, cells := 2, slots := 6, locals := 57 } : Room) Z h0 #[(.ref a), (.ref b), (.int (0 : Int32)), (.int (2 : Int32)), .null] (QrmS4_2_1 Z wcs a b kb v0 v1 h0 n0) := by
  refine own_body (plainFor_of_name own_pn_173) ?_
  intro p e s m below meth c s₁ hx hby hml hown hnm hret hlk hZ e0 X0
  have N0 := Fr.nil n0
  refine own_st (fun u_ k_ => castTop (own_ef_rmS4_2_1 m a b) k_) ?_
  show own_Go p e below _ (s₁.setTop (mkF m 0 #[.val (.ref a), .val (.ref b), .val (.int (0 : Int32)), .val (.int (2 : Int32)), .val .null, .unset] []))
  refine own_st (fun u_ k_ => XS.aloadN X0.here hx rfl (hb hby own_d_jdk_42_149_0) rfl rfl k_) ?_
  show own_Go p e below _ (s₁.setTop (mkF m 1 #[.val (.ref a), .val (.ref b), .val (.int (0 : Int32)), .val (.int (2 : Int32)), .val .null, .unset] [(.ref a)]))
  obtain ⟨T360, X360, e360, st360⟩ := initO X0 hx hZ hown (own_w hw 12 rfl) (own_w hw 13 rfl) (own_w hw 14 rfl) e0 (g := (mkF m 1 #[.val (.ref a), .val (.ref b), .val (.int (0 : Int32)), .val (.int (2 : Int32)), .val .null, .unset] [(.ref a)])) rfl (by rw [hml]; rfl) rfl (hb hby own_d_jdk_42_149_1) (by decide) (W := 0) (by show 2 * 0 + _ ≤ _; exact Nat.le_of_eq rfl) (by decide)
  refine own_st (fun u_ k_ => st360 u_ k_) ?_
  show own_Go p e below _ (T360.setTop (mkF m 4 #[.val (.ref a), .val (.ref b), .val (.int (0 : Int32)), .val (.int (2 : Int32)), .val .null, .unset] []))
  refine own_st (fun u_ k_ => XS.iloadN X360.here hx rfl (hb hby own_d_jdk_42_149_4) rfl k_) ?_
  show own_Go p e below _ (T360.setTop (mkF m 5 #[.val (.ref a), .val (.ref b), .val (.int (0 : Int32)), .val (.int (2 : Int32)), .val .null, .unset] [(.int (2 : Int32))]))
  refine own_st (fun u_ k_ => XS.ifYes X360.here hx rfl (pc0 := 5) (pc' := 27) rfl (hb hby own_d_jdk_42_149_5) rfl (XT.i0_ne_t (by decide)) (by decide) (by decide) k_) ?_
  show own_Go p e below _ (T360.setTop (mkF m 27 #[.val (.ref a), .val (.ref b), .val (.int (0 : Int32)), .val (.int (2 : Int32)), .val .null, .unset] []))
  have F361 := Sta.ext O0.2 hS.1
  obtain ⟨T362, X362, e362, st362⟩ := getS2 X360 hx hZ hown (host := "") (Or.inl (own_w hw 15 rfl)) Via.refl e360 F361 (g := (mkF m 27 #[.val (.ref a), .val (.ref b), .val (.int (0 : Int32)), .val (.int (2 : Int32)), .val .null, .unset] [])) rfl (hb hby own_d_jdk_42_149_27)
  refine own_st (fun u_ k_ => st362 u_ k_) ?_
  show own_Go p e below _ (T362.setTop (mkF m 30 #[.val (.ref a), .val (.ref b), .val (.int (0 : Int32)), .val (.int (2 : Int32)), .val .null, .unset] [(.int wcs)]))
  refine own_st (fun u_ k_ => XS.ifNo X362.here hx rfl (hb hby own_d_jdk_42_149_30) rfl (XT.i0_eq_f hS.2.1) k_) ?_
  show own_Go p e below _ (T362.setTop (mkF m 33 #[.val (.ref a), .val (.ref b), .val (.int (0 : Int32)), .val (.int (2 : Int32)), .val .null, .unset] []))
  refine own_st (fun u_ k_ => XS.aloadN X362.here hx rfl (hb hby own_d_jdk_42_149_33) rfl rfl k_) ?_
  show own_Go p e below _ (T362.setTop (mkF m 34 #[.val (.ref a), .val (.ref b), .val (.int (0 : Int32)), .val (.int (2 : Int32)), .val .null, .unset] [(.ref b)]))
  refine own_st (fun u_ k_ => XS.iloadN X362.here hx rfl (hb hby own_d_jdk_42_149_34) rfl k_) ?_
  show own_Go p e below _ (T362.setTop (mkF m 35 #[.val (.ref a), .val (.ref b), .val (.int (0 : Int32)), .val (.int (2 : Int32)), .val .null, .unset] [(.int (0 : Int32)), (.ref b)]))
  refine own_st (fun u_ k_ => XS.iloadN X362.here hx rfl (hb hby own_d_jdk_42_149_35) rfl k_) ?_
  show own_Go p e below _ (T362.setTop (mkF m 36 #[.val (.ref a), .val (.ref b), .val (.int (0 : Int32)), .val (.int (2 : Int32)), .val .null, .unset] [(.int (2 : Int32)), (.int (0 : Int32)), (.ref b)]))
  obtain ⟨T363, v363, L363, X363, hQ363, st363⟩ := own_callS X362 hx hZ (y := own_y_134) hown (own_w hw 16 rfl) (own_w hw 17 rfl) (own_w hw 18 rfl) (own_w hw 19 rfl) own_lm_28 (rmCq2_1 l Z a0 hw [] wcs hS b kb v0 v1 h0 n0 O0 Ea A1 (by assumption) (by assumption) (by assumption) (by assumption)) e362 own_pd_124 (argsL := [(.ref b), (.int (0 : Int32)), (.int (2 : Int32))]) (rest := []) rfl rfl (g := (mkF m 36 #[.val (.ref a), .val (.ref b), .val (.int (0 : Int32)), .val (.int (2 : Int32)), .val .null, .unset] [(.int (2 : Int32)), (.int (0 : Int32)), (.ref b)])) rfl (by rw [hml]; rfl) rfl (hb hby own_d_jdk_42_149_36) (W := 0) rfl (by decide) (by decide) (by decide) (by decide)
  obtain ⟨r_364, kr_365, rfl, M363, K363, z366, F367, F368⟩ := hQ363
  have N363 := Fr.app N0 M363
  refine own_st (fun u_ k_ => st363 u_ k_) ?_
  show own_Go p e below _ (T363.setTop (mkF m 39 #[.val (.ref a), .val (.ref b), .val (.int (0 : Int32)), .val (.int (2 : Int32)), .val .null, .unset] [(.ref r_364)]))
  refine own_st (fun u_ k_ => XS.astore X363.here hx rfl (hb hby own_d_jdk_42_149_39) rfl rfl (l' := #[.val (.ref a), .val (.ref b), .val (.int (0 : Int32)), .val (.int (2 : Int32)), .val .null, .val (.ref r_364)]) rfl k_) ?_
  show own_Go p e below _ (T363.setTop (mkF m 41 #[.val (.ref a), .val (.ref b), .val (.int (0 : Int32)), .val (.int (2 : Int32)), .val .null, .val (.ref r_364)] []))
  refine own_st (fun u_ k_ => XS.aloadN X363.here hx rfl (hb hby own_d_jdk_42_149_41) rfl rfl k_) ?_
  show own_Go p e below _ (T363.setTop (mkF m 42 #[.val (.ref a), .val (.ref b), .val (.int (0 : Int32)), .val (.int (2 : Int32)), .val .null, .val (.ref r_364)] [(.ref a)]))
  refine own_st (fun u_ k_ => XS.aload X363.here hx rfl (hb hby own_d_jdk_42_149_42) rfl rfl k_) ?_
  show own_Go p e below _ (T363.setTop (mkF m 44 #[.val (.ref a), .val (.ref b), .val (.int (0 : Int32)), .val (.int (2 : Int32)), .val .null, .val (.ref r_364)] [(.ref r_364), (.ref a)]))
  refine own_st (fun u_ k_ => XS.iloadN X363.here hx rfl (hb hby own_d_jdk_42_149_44) rfl k_) ?_
  show own_Go p e below _ (T363.setTop (mkF m 45 #[.val (.ref a), .val (.ref b), .val (.int (0 : Int32)), .val (.int (2 : Int32)), .val .null, .val (.ref r_364)] [(.int (2 : Int32)), (.ref r_364), (.ref a)]))
  have O370 : Old Z n0 T363.heap := O0.keep K363 all0
  obtain ⟨T369, v369, L369, X369, hQ369, st369⟩ := own_callS X363 hx hZ (y := own_y_143) hown (own_w hw 24 rfl) (own_w hw 25 rfl) (own_w hw 18 rfl) (own_w hw 26 rfl) own_lm_28 (rmCo2_4 l Z a0 hw [] wcs hS r_364 kr_365 [(.int ((v0 >>> ((0 : Int32) &&& 31)).toInt8.toInt32)), (.int ((v0 >>> ((8 : Int32) &&& 31)).toInt8.toInt32)), (.int ((v1 >>> ((0 : Int32) &&& 31)).toInt8.toInt32)), (.int ((v1 >>> ((8 : Int32) &&& 31)).toInt8.toInt32))] T363.heap n0 O370 F368) rfl own_pd_160 (argsL := [(.ref r_364), (.int (2 : Int32))]) (rest := [(.ref a)]) rfl rfl (g := (mkF m 45 #[.val (.ref a), .val (.ref b), .val (.int (0 : Int32)), .val (.int (2 : Int32)), .val .null, .val (.ref r_364)] [(.int (2 : Int32)), (.ref r_364), (.ref a)])) rfl (by rw [hml]; rfl) rfl (hb hby own_d_jdk_42_149_45) (W := 1) rfl (by decide) (by decide) (by decide) (by decide)
  obtain ⟨rfl, M369, e369⟩ := hQ369
  have N369 := Fr.app N363 M369
  refine own_st (fun u_ k_ => st369 u_ k_) ?_
  show own_Go p e below _ (T369.setTop (mkF m 48 #[.val (.ref a), .val (.ref b), .val (.int (0 : Int32)), .val (.int (2 : Int32)), .val .null, .val (.ref r_364)] [(.int (1 : Int32)), (.ref a)]))
  have F371 := (E.keep K363)
  have F372 := (F2.keep K363 nin0)
  obtain ⟨T373, h373, X373, e373, W373, st373⟩ := putF X369 hx hZ hown (host := "") (Or.inl (own_w hw 27 rfl)) Via.refl e369 F372 F371 (Or.inr ⟨(own_w hw 28 rfl), rfl, hnm⟩) (own_w hw 3 rfl) (ty := .byte) own_lm_162 rfl rfl (g := (mkF m 48 #[.val (.ref a), .val (.ref b), .val (.int (0 : Int32)), .val (.int (2 : Int32)), .val .null, .val (.ref r_364)] [(.int (1 : Int32)), (.ref a)])) rfl rfl (hb hby own_d_jdk_42_149_48)
  have N373 := Fr.snoc X373 N369 ga
  have F374 : Fld Z h373 a "java/lang/String" "coder" "B" (.int (1 : Int32)) := Fld.same W373 F372
  refine own_st (fun u_ k_ => st373 u_ k_) ?_
  show own_Go p e below _ (T373.setTop (mkF m 51 #[.val (.ref a), .val (.ref b), .val (.int (0 : Int32)), .val (.int (2 : Int32)), .val .null, .val (.ref r_364)] []))
  refine own_st (fun u_ k_ => XS.aloadN X373.here hx rfl (hb hby own_d_jdk_42_149_51) rfl rfl k_) ?_
  show own_Go p e below _ (T373.setTop (mkF m 52 #[.val (.ref a), .val (.ref b), .val (.int (0 : Int32)), .val (.int (2 : Int32)), .val .null, .val (.ref r_364)] [(.ref a)]))
  refine own_st (fun u_ k_ => XS.aload X373.here hx rfl (hb hby own_d_jdk_42_149_52) rfl rfl k_) ?_
  show own_Go p e below _ (T373.setTop (mkF m 54 #[.val (.ref a), .val (.ref b), .val (.int (0 : Int32)), .val (.int (2 : Int32)), .val .null, .val (.ref r_364)] [(.ref r_364), (.ref a)]))
  have F375 := (Exa.wr W373 F371)
  have F376 := (Fld.other W373 (F1.keep K363 nin0) (Or.inr (own_sn_168 hw)))
  obtain ⟨T377, h377, X377, e377, W377, st377⟩ := putF X373 hx hZ hown (host := "") (Or.inl (own_w hw 29 rfl)) Via.refl e373 F376 F375 (Or.inr ⟨(own_w hw 30 rfl), rfl, hnm⟩) (own_w hw 3 rfl) (ty := (.array .byte)) own_lm_167 rfl rfl (g := (mkF m 54 #[.val (.ref a), .val (.ref b), .val (.int (0 : Int32)), .val (.int (2 : Int32)), .val .null, .val (.ref r_364)] [(.ref r_364), (.ref a)])) rfl rfl (hb hby own_d_jdk_42_149_54)
  have N377 := Fr.snoc X377 N373 ga
  have F378 : Fld Z h377 a "java/lang/String" "value" "[B" (.ref r_364) := Fld.same W377 F376
  refine own_st (fun u_ k_ => st377 u_ k_) ?_
  show own_Go p e below _ (T377.setTop (mkF m 57 #[.val (.ref a), .val (.ref b), .val (.int (0 : Int32)), .val (.int (2 : Int32)), .val .null, .val (.ref r_364)] []))
  have K379 : Keep h0 T363.heap [a] := (Keep.refl h0 [a]).trans K363 all0
  have K380 : Keep h0 h373 [a] := K379.wr W373 (Or.inl (List.mem_of_getElem? (i := 0) rfl))
  have K381 : Keep h0 h377 [a] := K380.wr W377 (Or.inl (List.mem_of_getElem? (i := 0) rfl))
  have z382 : h0.size ≤ r_364 := Nat.le_trans (Nat.le_refl _) z366
  have F383 := (Exa.wr W377 F375)
  have F384 := (Fld.other W377 F374 (Or.inr (own_sn_171 hw)))
  have F385 := (Exa.wr W377 (Exa.wr W373 F367))
  have ne386 : r_364 ≠ a := (Ne.symm (Nat.ne_of_lt (Nat.lt_of_lt_of_le E.lt z366)))
  have F387 := ((F368.other W373 ne386).other W377 ne386)
  exact own_retV X377 hx hlk hret (hb hby own_d_jdk_42_149_57) (by decide) (by decide) (show QrmS4_2_1 Z wcs a b kb v0 v1 h0 n0 none T377.heap _ from (by rw [e377]; exact ⟨r_364, kr_365, rfl, N377, K381, z382, F383, F378, F384, F385, F387⟩))
theorem own_ef_rmCp2_2 (m : MethodId) (a : Addr) (b : Addr)  : entryFrame m #[(.ref a), (.int (0 : Int32)), (.ref b), (.int (0 : Int32)), (.int (2 : Int32))] 7 = mkF m 0 #[.val (.ref a), .val (.int (0 : Int32)), .val (.ref b), .val (.int (0 : Int32)), .val (.int (2 : Int32)), .unset, .unset] [] := by first | (simp [entryFrame, mkF, argsToLocals, Value.category, maxLocals]; done) | rfl
def QrmCp2_2 (Z : State) (wcs : Int32) (a : Addr) (ka : ClassId) (b : Addr) (kb : ClassId) (v0 : Int32) (v1 : Int32) (h0 : Heap) (n0 : Nat) (v : Option Value) (h : Heap) (L : List Loc) : Prop := v = some (.int (2 : Int32)) ∧ Fr n0 L ∧ Keep h0 h [b] ∧ Exa Z h b "[B" ∧ Arv Z h b kb .byte (2 : Int32) [(.int (v0.toInt8.toInt32)), (.int (v1.toInt8.toInt32))] (.int (0 : Int32))
set_option maxRecDepth 65536 in
set_option maxHeartbeats 40000000 in
theorem rmCp2_2 (l : Launch) (Z : State) (a0 : Array Value) (hw : own_H a0 Z) (ws : List Jvm.Cond) (wcs : Int32) (hS : own_S Z wcs) (a : Addr) (ka : ClassId) (b : Addr) (kb : ClassId) (v0 : Int32) (v1 : Int32) (h0 : Heap) (n0 : Nat) (O0 : Old Z n0 h0) (Ea : Exa Z h0 a "[C") (Eb : Exa Z h0 b "[B") (gb : n0 ≤ b) (A1 : Arv Z h0 a ka .char (2 : Int32) [(.int v0), (.int v1)] (.int (0 : Int32))) (A2 : Arv Z h0 b kb .byte (2 : Int32) [(.int (0 : Int32)), (.int (0 : Int32))] (.int (0 : Int32))) (q0 : ¬ (255 : Int32) < v0) (q1 : ¬ (255 : Int32) < v1) :
    own_Met l own_y_14 jdk_52_method_21_code 7 (some .int) ws ({ frames := 0, cells := 0, slots := 0, locals := 0 } : Room) Z h0 #[(.ref a), (.int (0 : Int32)), (.ref b), (.int (0 : Int32)), (.int (2 : Int32))] (QrmCp2_2 Z wcs a ka b kb v0 v1 h0 n0) := by
  refine own_body (plainFor_of_name own_pn_15) ?_
  intro p e s m below meth c s₁ hx hby hml hown hnm hret hlk hZ e0 X0
  have N0 := Fr.nil n0
  refine own_st (fun u_ k_ => castTop (own_ef_rmCp2_2 m a b) k_) ?_
  show own_Go p e below _ (s₁.setTop (mkF m 0 #[.val (.ref a), .val (.int (0 : Int32)), .val (.ref b), .val (.int (0 : Int32)), .val (.int (2 : Int32)), .unset, .unset] []))
  refine own_st (fun u_ k_ => XS.iconst X0.here hx rfl (hb hby own_d_jdk_52_21_0) k_) ?_
  show own_Go p e below _ (s₁.setTop (mkF m 1 #[.val (.ref a), .val (.int (0 : Int32)), .val (.ref b), .val (.int (0 : Int32)), .val (.int (2 : Int32)), .unset, .unset] [(.int (0 : Int32))]))
  refine own_st (fun u_ k_ => XS.istore X0.here hx rfl (hb hby own_d_jdk_52_21_1) rfl (l' := #[.val (.ref a), .val (.int (0 : Int32)), .val (.ref b), .val (.int (0 : Int32)), .val (.int (2 : Int32)), .val (.int (0 : Int32)), .unset]) rfl k_) ?_
  show own_Go p e below _ (s₁.setTop (mkF m 3 #[.val (.ref a), .val (.int (0 : Int32)), .val (.ref b), .val (.int (0 : Int32)), .val (.int (2 : Int32)), .val (.int (0 : Int32)), .unset] []))
  refine own_st (fun u_ k_ => XS.iload X0.here hx rfl (hb hby own_d_jdk_52_21_3) rfl k_) ?_
  show own_Go p e below _ (s₁.setTop (mkF m 5 #[.val (.ref a), .val (.int (0 : Int32)), .val (.ref b), .val (.int (0 : Int32)), .val (.int (2 : Int32)), .val (.int (0 : Int32)), .unset] [(.int (0 : Int32))]))
  refine own_st (fun u_ k_ => XS.iload X0.here hx rfl (hb hby own_d_jdk_52_21_5) rfl k_) ?_
  show own_Go p e below _ (s₁.setTop (mkF m 7 #[.val (.ref a), .val (.int (0 : Int32)), .val (.ref b), .val (.int (0 : Int32)), .val (.int (2 : Int32)), .val (.int (0 : Int32)), .unset] [(.int (2 : Int32)), (.int (0 : Int32))]))
  refine own_st (fun u_ k_ => XS.icmpNo X0.here hx rfl (hb hby own_d_jdk_52_21_7) rfl (XT.ii_ge_f (by decide)) k_) ?_
  show own_Go p e below _ (s₁.setTop (mkF m 10 #[.val (.ref a), .val (.int (0 : Int32)), .val (.ref b), .val (.int (0 : Int32)), .val (.int (2 : Int32)), .val (.int (0 : Int32)), .unset] []))
  refine own_st (fun u_ k_ => XS.aloadN X0.here hx rfl (hb hby own_d_jdk_52_21_10) rfl rfl k_) ?_
  show own_Go p e below _ (s₁.setTop (mkF m 11 #[.val (.ref a), .val (.int (0 : Int32)), .val (.ref b), .val (.int (0 : Int32)), .val (.int (2 : Int32)), .val (.int (0 : Int32)), .unset] [(.ref a)]))
  refine own_st (fun u_ k_ => XS.iloadN X0.here hx rfl (hb hby own_d_jdk_52_21_11) rfl k_) ?_
  show own_Go p e below _ (s₁.setTop (mkF m 12 #[.val (.ref a), .val (.int (0 : Int32)), .val (.ref b), .val (.int (0 : Int32)), .val (.int (2 : Int32)), .val (.int (0 : Int32)), .unset] [(.int (0 : Int32)), (.ref a)]))
  obtain ⟨cl400, Ar400, q400, S400, N400, H400, G400⟩ := id A1
  have hi400 : ¬ ((0 : Int32) < 0 ∨ cl400.slots.size ≤ ((0 : Int32)).toNatClampNeg) := inb_of S400 ⟨by decide, by decide⟩
  have ha400 : cl400.slots[((0 : Int32)).toNatClampNeg]? = some (.int v0) := H400.at hi400 rfl
  refine own_st (X0.caload hx (j := (0 : Int32)) (v := (.int v0)) (by rw [e0]; exact Ar400.1) (State.isArrayOf_alike hZ.alike Ar400.2.1) Ar400.2.2 hi400 ha400 (g := (mkF m 12 #[.val (.ref a), .val (.int (0 : Int32)), .val (.ref b), .val (.int (0 : Int32)), .val (.int (2 : Int32)), .val (.int (0 : Int32)), .unset] [(.int (0 : Int32)), (.ref a)])) rfl rfl (hb hby own_d_jdk_52_21_12)) ?_
  show own_Go p e below _ (s₁.setTop (mkF m 13 #[.val (.ref a), .val (.int (0 : Int32)), .val (.ref b), .val (.int (0 : Int32)), .val (.int (2 : Int32)), .val (.int (0 : Int32)), .unset] [(.int v0)]))
  refine own_st (fun u_ k_ => XS.istore X0.here hx rfl (hb hby own_d_jdk_52_21_13) rfl (l' := #[.val (.ref a), .val (.int (0 : Int32)), .val (.ref b), .val (.int (0 : Int32)), .val (.int (2 : Int32)), .val (.int (0 : Int32)), .val (.int v0)]) rfl k_) ?_
  show own_Go p e below _ (s₁.setTop (mkF m 15 #[.val (.ref a), .val (.int (0 : Int32)), .val (.ref b), .val (.int (0 : Int32)), .val (.int (2 : Int32)), .val (.int (0 : Int32)), .val (.int v0)] []))
  refine own_st (fun u_ k_ => XS.iload X0.here hx rfl (hb hby own_d_jdk_52_21_15) rfl k_) ?_
  show own_Go p e below _ (s₁.setTop (mkF m 17 #[.val (.ref a), .val (.int (0 : Int32)), .val (.ref b), .val (.int (0 : Int32)), .val (.int (2 : Int32)), .val (.int (0 : Int32)), .val (.int v0)] [(.int v0)]))
  refine own_st (fun u_ k_ => XS.sipush X0.here hx rfl (hb hby own_d_jdk_52_21_17) k_) ?_
  show own_Go p e below _ (s₁.setTop (mkF m 20 #[.val (.ref a), .val (.int (0 : Int32)), .val (.ref b), .val (.int (0 : Int32)), .val (.int (2 : Int32)), .val (.int (0 : Int32)), .val (.int v0)] [(.int (255 : Int32)), (.int v0)]))
  refine own_st (fun u_ k_ => XS.icmpYes X0.here hx rfl (pc0 := 20) (pc' := 26) rfl (hb hby own_d_jdk_52_21_20) rfl (XT.ii_le_t q0) (by decide) (by decide) k_) ?_
  show own_Go p e below _ (s₁.setTop (mkF m 26 #[.val (.ref a), .val (.int (0 : Int32)), .val (.ref b), .val (.int (0 : Int32)), .val (.int (2 : Int32)), .val (.int (0 : Int32)), .val (.int v0)] []))
  refine own_st (fun u_ k_ => XS.aloadN X0.here hx rfl (hb hby own_d_jdk_52_21_26) rfl rfl k_) ?_
  show own_Go p e below _ (s₁.setTop (mkF m 27 #[.val (.ref a), .val (.int (0 : Int32)), .val (.ref b), .val (.int (0 : Int32)), .val (.int (2 : Int32)), .val (.int (0 : Int32)), .val (.int v0)] [(.ref b)]))
  refine own_st (fun u_ k_ => XS.iloadN X0.here hx rfl (hb hby own_d_jdk_52_21_27) rfl k_) ?_
  show own_Go p e below _ (s₁.setTop (mkF m 28 #[.val (.ref a), .val (.int (0 : Int32)), .val (.ref b), .val (.int (0 : Int32)), .val (.int (2 : Int32)), .val (.int (0 : Int32)), .val (.int v0)] [(.int (0 : Int32)), (.ref b)]))
  refine own_st (fun u_ k_ => XS.iload X0.here hx rfl (hb hby own_d_jdk_52_21_28) rfl k_) ?_
  show own_Go p e below _ (s₁.setTop (mkF m 30 #[.val (.ref a), .val (.int (0 : Int32)), .val (.ref b), .val (.int (0 : Int32)), .val (.int (2 : Int32)), .val (.int (0 : Int32)), .val (.int v0)] [(.int v0), (.int (0 : Int32)), (.ref b)]))
  refine own_st (fun u_ k_ => XS.i2b X0.here hx rfl (hb hby own_d_jdk_52_21_30) rfl k_) ?_
  show own_Go p e below _ (s₁.setTop (mkF m 31 #[.val (.ref a), .val (.int (0 : Int32)), .val (.ref b), .val (.int (0 : Int32)), .val (.int (2 : Int32)), .val (.int (0 : Int32)), .val (.int v0)] [(.int (v0.toInt8.toInt32)), (.int (0 : Int32)), (.ref b)]))
  obtain ⟨cl401, Ar401, q401, S401, N401, H401, G401⟩ := id A2
  have hi401 : ¬ ((0 : Int32) < 0 ∨ cl401.slots.size ≤ ((0 : Int32)).toNatClampNeg) := inb_of S401 ⟨by decide, by decide⟩
  obtain ⟨T402, h402, X402, e402, W402, st402⟩ := stB X0 hx hZ e0 Ar401 (j := (0 : Int32)) hi401 (g := (mkF m 31 #[.val (.ref a), .val (.int (0 : Int32)), .val (.ref b), .val (.int (0 : Int32)), .val (.int (2 : Int32)), .val (.int (0 : Int32)), .val (.int v0)] [(.int (v0.toInt8.toInt32)), (.int (0 : Int32)), (.ref b)])) rfl rfl (hb hby own_d_jdk_52_21_31)
  rw [own_bb] at W402
  have N402 := Fr.snoc X402 N0 gb
  have V402 : Arv Z h402 b kb .byte (2 : Int32) [(.int (v0.toInt8.toInt32)), (.int (0 : Int32))] (.int (0 : Int32)) := Arv.set Ar401 q401 S401 N401 H401 G401 (fits_nar_byte _) W402 0 rfl (Nat.le_of_ble_eq_true rfl)
  refine own_st (fun u_ k_ => st402 u_ k_) ?_
  show own_Go p e below _ (T402.setTop (mkF m 32 #[.val (.ref a), .val (.int (0 : Int32)), .val (.ref b), .val (.int (0 : Int32)), .val (.int (2 : Int32)), .val (.int (0 : Int32)), .val (.int v0)] []))
  refine own_st (fun u_ k_ => XS.iinc X402.here hx rfl (hb hby own_d_jdk_52_21_32) rfl (l' := #[.val (.ref a), .val (.int (1 : Int32)), .val (.ref b), .val (.int (0 : Int32)), .val (.int (2 : Int32)), .val (.int (0 : Int32)), .val (.int v0)]) rfl k_) ?_
  show own_Go p e below _ (T402.setTop (mkF m 35 #[.val (.ref a), .val (.int (1 : Int32)), .val (.ref b), .val (.int (0 : Int32)), .val (.int (2 : Int32)), .val (.int (0 : Int32)), .val (.int v0)] []))
  refine own_st (fun u_ k_ => XS.iinc X402.here hx rfl (hb hby own_d_jdk_52_21_35) rfl (l' := #[.val (.ref a), .val (.int (1 : Int32)), .val (.ref b), .val (.int (1 : Int32)), .val (.int (2 : Int32)), .val (.int (0 : Int32)), .val (.int v0)]) rfl k_) ?_
  show own_Go p e below _ (T402.setTop (mkF m 38 #[.val (.ref a), .val (.int (1 : Int32)), .val (.ref b), .val (.int (1 : Int32)), .val (.int (2 : Int32)), .val (.int (0 : Int32)), .val (.int v0)] []))
  refine own_st (fun u_ k_ => XS.iinc X402.here hx rfl (hb hby own_d_jdk_52_21_38) rfl (l' := #[.val (.ref a), .val (.int (1 : Int32)), .val (.ref b), .val (.int (1 : Int32)), .val (.int (2 : Int32)), .val (.int (1 : Int32)), .val (.int v0)]) rfl k_) ?_
  show own_Go p e below _ (T402.setTop (mkF m 41 #[.val (.ref a), .val (.int (1 : Int32)), .val (.ref b), .val (.int (1 : Int32)), .val (.int (2 : Int32)), .val (.int (1 : Int32)), .val (.int v0)] []))
  refine own_st (fun u_ k_ => XS.goto X402.here hx rfl (pc0 := 41) (pc' := 3) rfl (hb hby own_d_jdk_52_21_41) (by decide) (by decide) k_) ?_
  show own_Go p e below _ (T402.setTop (mkF m 3 #[.val (.ref a), .val (.int (1 : Int32)), .val (.ref b), .val (.int (1 : Int32)), .val (.int (2 : Int32)), .val (.int (1 : Int32)), .val (.int v0)] []))
  refine own_st (fun u_ k_ => XS.iload X402.here hx rfl (hb hby own_d_jdk_52_21_3) rfl k_) ?_
  show own_Go p e below _ (T402.setTop (mkF m 5 #[.val (.ref a), .val (.int (1 : Int32)), .val (.ref b), .val (.int (1 : Int32)), .val (.int (2 : Int32)), .val (.int (1 : Int32)), .val (.int v0)] [(.int (1 : Int32))]))
  refine own_st (fun u_ k_ => XS.iload X402.here hx rfl (hb hby own_d_jdk_52_21_5) rfl k_) ?_
  show own_Go p e below _ (T402.setTop (mkF m 7 #[.val (.ref a), .val (.int (1 : Int32)), .val (.ref b), .val (.int (1 : Int32)), .val (.int (2 : Int32)), .val (.int (1 : Int32)), .val (.int v0)] [(.int (2 : Int32)), (.int (1 : Int32))]))
  refine own_st (fun u_ k_ => XS.icmpNo X402.here hx rfl (hb hby own_d_jdk_52_21_7) rfl (XT.ii_ge_f (by decide)) k_) ?_
  show own_Go p e below _ (T402.setTop (mkF m 10 #[.val (.ref a), .val (.int (1 : Int32)), .val (.ref b), .val (.int (1 : Int32)), .val (.int (2 : Int32)), .val (.int (1 : Int32)), .val (.int v0)] []))
  refine own_st (fun u_ k_ => XS.aloadN X402.here hx rfl (hb hby own_d_jdk_52_21_10) rfl rfl k_) ?_
  show own_Go p e below _ (T402.setTop (mkF m 11 #[.val (.ref a), .val (.int (1 : Int32)), .val (.ref b), .val (.int (1 : Int32)), .val (.int (2 : Int32)), .val (.int (1 : Int32)), .val (.int v0)] [(.ref a)]))
  refine own_st (fun u_ k_ => XS.iloadN X402.here hx rfl (hb hby own_d_jdk_52_21_11) rfl k_) ?_
  show own_Go p e below _ (T402.setTop (mkF m 12 #[.val (.ref a), .val (.int (1 : Int32)), .val (.ref b), .val (.int (1 : Int32)), .val (.int (2 : Int32)), .val (.int (1 : Int32)), .val (.int v0)] [(.int (1 : Int32)), (.ref a)]))
  have ne403 : a ≠ b := (ne_exa Ea Eb own_lm_202)
  have F404 := (A1.other W402 ne403)
  obtain ⟨cl405, Ar405, q405, S405, N405, H405, G405⟩ := id F404
  have hi405 : ¬ ((1 : Int32) < 0 ∨ cl405.slots.size ≤ ((1 : Int32)).toNatClampNeg) := inb_of S405 ⟨by decide, by decide⟩
  have ha405 : cl405.slots[((1 : Int32)).toNatClampNeg]? = some (.int v1) := H405.at hi405 rfl
  refine own_st (X402.caload hx (j := (1 : Int32)) (v := (.int v1)) (by rw [e402]; exact Ar405.1) (State.isArrayOf_alike hZ.alike Ar405.2.1) Ar405.2.2 hi405 ha405 (g := (mkF m 12 #[.val (.ref a), .val (.int (1 : Int32)), .val (.ref b), .val (.int (1 : Int32)), .val (.int (2 : Int32)), .val (.int (1 : Int32)), .val (.int v0)] [(.int (1 : Int32)), (.ref a)])) rfl rfl (hb hby own_d_jdk_52_21_12)) ?_
  show own_Go p e below _ (T402.setTop (mkF m 13 #[.val (.ref a), .val (.int (1 : Int32)), .val (.ref b), .val (.int (1 : Int32)), .val (.int (2 : Int32)), .val (.int (1 : Int32)), .val (.int v0)] [(.int v1)]))
  refine own_st (fun u_ k_ => XS.istore X402.here hx rfl (hb hby own_d_jdk_52_21_13) rfl (l' := #[.val (.ref a), .val (.int (1 : Int32)), .val (.ref b), .val (.int (1 : Int32)), .val (.int (2 : Int32)), .val (.int (1 : Int32)), .val (.int v1)]) rfl k_) ?_
  show own_Go p e below _ (T402.setTop (mkF m 15 #[.val (.ref a), .val (.int (1 : Int32)), .val (.ref b), .val (.int (1 : Int32)), .val (.int (2 : Int32)), .val (.int (1 : Int32)), .val (.int v1)] []))
  refine own_st (fun u_ k_ => XS.iload X402.here hx rfl (hb hby own_d_jdk_52_21_15) rfl k_) ?_
  show own_Go p e below _ (T402.setTop (mkF m 17 #[.val (.ref a), .val (.int (1 : Int32)), .val (.ref b), .val (.int (1 : Int32)), .val (.int (2 : Int32)), .val (.int (1 : Int32)), .val (.int v1)] [(.int v1)]))
  refine own_st (fun u_ k_ => XS.sipush X402.here hx rfl (hb hby own_d_jdk_52_21_17) k_) ?_
  show own_Go p e below _ (T402.setTop (mkF m 20 #[.val (.ref a), .val (.int (1 : Int32)), .val (.ref b), .val (.int (1 : Int32)), .val (.int (2 : Int32)), .val (.int (1 : Int32)), .val (.int v1)] [(.int (255 : Int32)), (.int v1)]))
  refine own_st (fun u_ k_ => XS.icmpYes X402.here hx rfl (pc0 := 20) (pc' := 26) rfl (hb hby own_d_jdk_52_21_20) rfl (XT.ii_le_t q1) (by decide) (by decide) k_) ?_
  show own_Go p e below _ (T402.setTop (mkF m 26 #[.val (.ref a), .val (.int (1 : Int32)), .val (.ref b), .val (.int (1 : Int32)), .val (.int (2 : Int32)), .val (.int (1 : Int32)), .val (.int v1)] []))
  refine own_st (fun u_ k_ => XS.aloadN X402.here hx rfl (hb hby own_d_jdk_52_21_26) rfl rfl k_) ?_
  show own_Go p e below _ (T402.setTop (mkF m 27 #[.val (.ref a), .val (.int (1 : Int32)), .val (.ref b), .val (.int (1 : Int32)), .val (.int (2 : Int32)), .val (.int (1 : Int32)), .val (.int v1)] [(.ref b)]))
  refine own_st (fun u_ k_ => XS.iloadN X402.here hx rfl (hb hby own_d_jdk_52_21_27) rfl k_) ?_
  show own_Go p e below _ (T402.setTop (mkF m 28 #[.val (.ref a), .val (.int (1 : Int32)), .val (.ref b), .val (.int (1 : Int32)), .val (.int (2 : Int32)), .val (.int (1 : Int32)), .val (.int v1)] [(.int (1 : Int32)), (.ref b)]))
  refine own_st (fun u_ k_ => XS.iload X402.here hx rfl (hb hby own_d_jdk_52_21_28) rfl k_) ?_
  show own_Go p e below _ (T402.setTop (mkF m 30 #[.val (.ref a), .val (.int (1 : Int32)), .val (.ref b), .val (.int (1 : Int32)), .val (.int (2 : Int32)), .val (.int (1 : Int32)), .val (.int v1)] [(.int v1), (.int (1 : Int32)), (.ref b)]))
  refine own_st (fun u_ k_ => XS.i2b X402.here hx rfl (hb hby own_d_jdk_52_21_30) rfl k_) ?_
  show own_Go p e below _ (T402.setTop (mkF m 31 #[.val (.ref a), .val (.int (1 : Int32)), .val (.ref b), .val (.int (1 : Int32)), .val (.int (2 : Int32)), .val (.int (1 : Int32)), .val (.int v1)] [(.int (v1.toInt8.toInt32)), (.int (1 : Int32)), (.ref b)]))
  obtain ⟨cl406, Ar406, q406, S406, N406, H406, G406⟩ := id V402
  have hi406 : ¬ ((1 : Int32) < 0 ∨ cl406.slots.size ≤ ((1 : Int32)).toNatClampNeg) := inb_of S406 ⟨by decide, by decide⟩
  obtain ⟨T407, h407, X407, e407, W407, st407⟩ := stB X402 hx hZ e402 Ar406 (j := (1 : Int32)) hi406 (g := (mkF m 31 #[.val (.ref a), .val (.int (1 : Int32)), .val (.ref b), .val (.int (1 : Int32)), .val (.int (2 : Int32)), .val (.int (1 : Int32)), .val (.int v1)] [(.int (v1.toInt8.toInt32)), (.int (1 : Int32)), (.ref b)])) rfl rfl (hb hby own_d_jdk_52_21_31)
  rw [own_bb] at W407
  have N407 := Fr.snoc X407 N402 gb
  have V407 : Arv Z h407 b kb .byte (2 : Int32) [(.int (v0.toInt8.toInt32)), (.int (v1.toInt8.toInt32))] (.int (0 : Int32)) := Arv.set Ar406 q406 S406 N406 H406 G406 (fits_nar_byte _) W407 1 rfl (Nat.le_of_ble_eq_true rfl)
  refine own_st (fun u_ k_ => st407 u_ k_) ?_
  show own_Go p e below _ (T407.setTop (mkF m 32 #[.val (.ref a), .val (.int (1 : Int32)), .val (.ref b), .val (.int (1 : Int32)), .val (.int (2 : Int32)), .val (.int (1 : Int32)), .val (.int v1)] []))
  refine own_st (fun u_ k_ => XS.iinc X407.here hx rfl (hb hby own_d_jdk_52_21_32) rfl (l' := #[.val (.ref a), .val (.int (2 : Int32)), .val (.ref b), .val (.int (1 : Int32)), .val (.int (2 : Int32)), .val (.int (1 : Int32)), .val (.int v1)]) rfl k_) ?_
  show own_Go p e below _ (T407.setTop (mkF m 35 #[.val (.ref a), .val (.int (2 : Int32)), .val (.ref b), .val (.int (1 : Int32)), .val (.int (2 : Int32)), .val (.int (1 : Int32)), .val (.int v1)] []))
  refine own_st (fun u_ k_ => XS.iinc X407.here hx rfl (hb hby own_d_jdk_52_21_35) rfl (l' := #[.val (.ref a), .val (.int (2 : Int32)), .val (.ref b), .val (.int (2 : Int32)), .val (.int (2 : Int32)), .val (.int (1 : Int32)), .val (.int v1)]) rfl k_) ?_
  show own_Go p e below _ (T407.setTop (mkF m 38 #[.val (.ref a), .val (.int (2 : Int32)), .val (.ref b), .val (.int (2 : Int32)), .val (.int (2 : Int32)), .val (.int (1 : Int32)), .val (.int v1)] []))
  refine own_st (fun u_ k_ => XS.iinc X407.here hx rfl (hb hby own_d_jdk_52_21_38) rfl (l' := #[.val (.ref a), .val (.int (2 : Int32)), .val (.ref b), .val (.int (2 : Int32)), .val (.int (2 : Int32)), .val (.int (2 : Int32)), .val (.int v1)]) rfl k_) ?_
  show own_Go p e below _ (T407.setTop (mkF m 41 #[.val (.ref a), .val (.int (2 : Int32)), .val (.ref b), .val (.int (2 : Int32)), .val (.int (2 : Int32)), .val (.int (2 : Int32)), .val (.int v1)] []))
  refine own_st (fun u_ k_ => XS.goto X407.here hx rfl (pc0 := 41) (pc' := 3) rfl (hb hby own_d_jdk_52_21_41) (by decide) (by decide) k_) ?_
  show own_Go p e below _ (T407.setTop (mkF m 3 #[.val (.ref a), .val (.int (2 : Int32)), .val (.ref b), .val (.int (2 : Int32)), .val (.int (2 : Int32)), .val (.int (2 : Int32)), .val (.int v1)] []))
  refine own_st (fun u_ k_ => XS.iload X407.here hx rfl (hb hby own_d_jdk_52_21_3) rfl k_) ?_
  show own_Go p e below _ (T407.setTop (mkF m 5 #[.val (.ref a), .val (.int (2 : Int32)), .val (.ref b), .val (.int (2 : Int32)), .val (.int (2 : Int32)), .val (.int (2 : Int32)), .val (.int v1)] [(.int (2 : Int32))]))
  refine own_st (fun u_ k_ => XS.iload X407.here hx rfl (hb hby own_d_jdk_52_21_5) rfl k_) ?_
  show own_Go p e below _ (T407.setTop (mkF m 7 #[.val (.ref a), .val (.int (2 : Int32)), .val (.ref b), .val (.int (2 : Int32)), .val (.int (2 : Int32)), .val (.int (2 : Int32)), .val (.int v1)] [(.int (2 : Int32)), (.int (2 : Int32))]))
  refine own_st (fun u_ k_ => XS.icmpYes X407.here hx rfl (pc0 := 7) (pc' := 44) rfl (hb hby own_d_jdk_52_21_7) rfl (XT.ii_ge_t (by decide)) (by decide) (by decide) k_) ?_
  show own_Go p e below _ (T407.setTop (mkF m 44 #[.val (.ref a), .val (.int (2 : Int32)), .val (.ref b), .val (.int (2 : Int32)), .val (.int (2 : Int32)), .val (.int (2 : Int32)), .val (.int v1)] []))
  refine own_st (fun u_ k_ => XS.iload X407.here hx rfl (hb hby own_d_jdk_52_21_44) rfl k_) ?_
  show own_Go p e below _ (T407.setTop (mkF m 46 #[.val (.ref a), .val (.int (2 : Int32)), .val (.ref b), .val (.int (2 : Int32)), .val (.int (2 : Int32)), .val (.int (2 : Int32)), .val (.int v1)] [(.int (2 : Int32))]))
  have K408 : Keep h0 h402 [b] := (Keep.refl h0 [b]).wr W402 (Or.inl (List.mem_of_getElem? (i := 0) rfl))
  have K409 : Keep h0 h407 [b] := K408.wr W407 (Or.inl (List.mem_of_getElem? (i := 0) rfl))
  have F410 := (Exa.wr W407 (Exa.wr W402 Eb))
  exact own_retX X407 hx hlk hret rfl (Or.inl ⟨rfl, by simp, _, rfl⟩) (hb hby own_d_jdk_52_21_46) (by decide) (by decide) (show QrmCp2_2 Z wcs a ka b kb v0 v1 h0 n0 (some (.int (2 : Int32))) T407.heap _ from (by rw [e407]; exact ⟨rfl, N407, K409, F410, V407⟩))
theorem own_ef_rmCq2_2 (m : MethodId) (a : Addr)  : entryFrame m #[(.ref a), (.int (0 : Int32)), (.int (2 : Int32))] 6 = mkF m 0 #[.val (.ref a), .val (.int (0 : Int32)), .val (.int (2 : Int32)), .unset, .unset, .unset] [] := by first | (simp [entryFrame, mkF, argsToLocals, Value.category, maxLocals]; done) | rfl
def QrmCq2_2 (Z : State) (wcs : Int32) (a : Addr) (ka : ClassId) (v0 : Int32) (v1 : Int32) (h0 : Heap) (n0 : Nat) (v : Option Value) (h : Heap) (L : List Loc) : Prop := ∃ r : Addr, ∃ kr : ClassId, v = some (.ref r) ∧ Fr n0 L ∧ Keep h0 h [] ∧ h0.size ≤ r ∧ Exa Z h r "[B" ∧ Arv Z h r kr .byte (2 : Int32) [(.int (v0.toInt8.toInt32)), (.int (v1.toInt8.toInt32))] (.int (0 : Int32))
set_option maxRecDepth 65536 in
set_option maxHeartbeats 40000000 in
theorem rmCq2_2 (l : Launch) (Z : State) (a0 : Array Value) (hw : own_H a0 Z) (ws : List Jvm.Cond) (wcs : Int32) (hS : own_S Z wcs) (a : Addr) (ka : ClassId) (v0 : Int32) (v1 : Int32) (h0 : Heap) (n0 : Nat) (O0 : Old Z n0 h0) (Ea : Exa Z h0 a "[C") (A1 : Arv Z h0 a ka .char (2 : Int32) [(.int v0), (.int v1)] (.int (0 : Int32))) (q0 : ¬ (255 : Int32) < v0) (q1 : ¬ (255 : Int32) < v1) :
    own_Met l own_y_134 jdk_52_method_16_code 6 (some (.array .byte)) ws ({ frames := 1, cells := 1, slots := 2, locals := 18 } : Room) Z h0 #[(.ref a), (.int (0 : Int32)), (.int (2 : Int32))] (QrmCq2_2 Z wcs a ka v0 v1 h0 n0) := by
  refine own_body (plainFor_of_name own_pn_15) ?_
  intro p e s m below meth c s₁ hx hby hml hown hnm hret hlk hZ e0 X0
  have N0 := Fr.nil n0
  refine own_st (fun u_ k_ => castTop (own_ef_rmCq2_2 m a) k_) ?_
  show own_Go p e below _ (s₁.setTop (mkF m 0 #[.val (.ref a), .val (.int (0 : Int32)), .val (.int (2 : Int32)), .unset, .unset, .unset] []))
  refine own_st (fun u_ k_ => XS.iloadN X0.here hx rfl (hb hby own_d_jdk_52_16_0) rfl k_) ?_
  show own_Go p e below _ (s₁.setTop (mkF m 1 #[.val (.ref a), .val (.int (0 : Int32)), .val (.int (2 : Int32)), .unset, .unset, .unset] [(.int (2 : Int32))]))
  obtain ⟨T411, h411, k411, X411, e411, E411, A411, Y411, st411⟩ := newPE X0 hx hZ (own_w hw 20 rfl) e0 (g := (mkF m 1 #[.val (.ref a), .val (.int (0 : Int32)), .val (.int (2 : Int32)), .unset, .unset, .unset] [(.int (2 : Int32))])) rfl (hb hby own_d_jdk_52_16_1) rfl (by decide) (cap := 2) (by decide) (by decide) (by decide) (by decide) (ad := "[B") own_lm_31
  obtain ⟨b411, g411⟩ : ∃ z, z = h0.size := ⟨_, rfl⟩
  rw [← g411] at A411 Y411 st411
  have V411 : Arv Z h411 b411 k411 .byte (2 : Int32) [(.int (0 : Int32)), (.int (0 : Int32))] (.int (0 : Int32)) := (Arv.new A411 (by decide)).pad (pad_rep [] (.int (0 : Int32)) 2)
  refine own_st (fun u_ k_ => st411 u_ k_) ?_
  show own_Go p e below _ (T411.setTop (mkF m 3 #[.val (.ref a), .val (.int (0 : Int32)), .val (.int (2 : Int32)), .unset, .unset, .unset] [(.ref b411)]))
  refine own_st (fun u_ k_ => XS.astoreN X411.here hx rfl (hb hby own_d_jdk_52_16_3) rfl rfl (l' := #[.val (.ref a), .val (.int (0 : Int32)), .val (.int (2 : Int32)), .val (.ref b411), .unset, .unset]) rfl k_) ?_
  show own_Go p e below _ (T411.setTop (mkF m 4 #[.val (.ref a), .val (.int (0 : Int32)), .val (.int (2 : Int32)), .val (.ref b411), .unset, .unset] []))
  refine own_st (fun u_ k_ => XS.aloadN X411.here hx rfl (hb hby own_d_jdk_52_16_4) rfl rfl k_) ?_
  show own_Go p e below _ (T411.setTop (mkF m 5 #[.val (.ref a), .val (.int (0 : Int32)), .val (.int (2 : Int32)), .val (.ref b411), .unset, .unset] [(.ref a)]))
  refine own_st (fun u_ k_ => XS.iloadN X411.here hx rfl (hb hby own_d_jdk_52_16_5) rfl k_) ?_
  show own_Go p e below _ (T411.setTop (mkF m 6 #[.val (.ref a), .val (.int (0 : Int32)), .val (.int (2 : Int32)), .val (.ref b411), .unset, .unset] [(.int (0 : Int32)), (.ref a)]))
  refine own_st (fun u_ k_ => XS.aloadN X411.here hx rfl (hb hby own_d_jdk_52_16_6) rfl rfl k_) ?_
  show own_Go p e below _ (T411.setTop (mkF m 7 #[.val (.ref a), .val (.int (0 : Int32)), .val (.int (2 : Int32)), .val (.ref b411), .unset, .unset] [(.ref b411), (.int (0 : Int32)), (.ref a)]))
  refine own_st (fun u_ k_ => XS.iconst X411.here hx rfl (hb hby own_d_jdk_52_16_7) k_) ?_
  show own_Go p e below _ (T411.setTop (mkF m 8 #[.val (.ref a), .val (.int (0 : Int32)), .val (.int (2 : Int32)), .val (.ref b411), .unset, .unset] [(.int (0 : Int32)), (.ref b411), (.int (0 : Int32)), (.ref a)]))
  refine own_st (fun u_ k_ => XS.iloadN X411.here hx rfl (hb hby own_d_jdk_52_16_8) rfl k_) ?_
  show own_Go p e below _ (T411.setTop (mkF m 9 #[.val (.ref a), .val (.int (0 : Int32)), .val (.int (2 : Int32)), .val (.ref b411), .unset, .unset] [(.int (2 : Int32)), (.int (0 : Int32)), (.ref b411), (.int (0 : Int32)), (.ref a)]))
  have F412 := (Exa.ext E411 Ea)
  have g413 : n0 ≤ b411 := Nat.le_trans (own_nl O0) (Nat.le_of_eq g411.symm)
  have F414 := (A1.ext E411)
  have O416 : Old Z n0 h411 := O0.ext E411
  obtain ⟨T415, v415, L415, X415, hQ415, st415⟩ := own_callS X411 hx hZ (y := own_y_14) hown (own_w hw 21 rfl) (own_w hw 22 rfl) (own_w hw 18 rfl) (own_w hw 23 rfl) own_lm_28 (rmCp2_2 l Z a0 hw [] wcs hS a ka b411 k411 v0 v1 h411 n0 O416 F412 Y411 g413 F414 V411 (by assumption) (by assumption)) e411 own_pd_115 (argsL := [(.ref a), (.int (0 : Int32)), (.ref b411), (.int (0 : Int32)), (.int (2 : Int32))]) (rest := []) rfl rfl (g := (mkF m 9 #[.val (.ref a), .val (.int (0 : Int32)), .val (.int (2 : Int32)), .val (.ref b411), .unset, .unset] [(.int (2 : Int32)), (.int (0 : Int32)), (.ref b411), (.int (0 : Int32)), (.ref a)])) rfl (by rw [hml]; rfl) rfl (hb hby own_d_jdk_52_16_9) (W := 0) rfl (by decide) (by decide) (by decide) (by decide)
  obtain ⟨rfl, M415, K415, F417, F418⟩ := hQ415
  have N415 := Fr.app N0 M415
  refine own_st (fun u_ k_ => st415 u_ k_) ?_
  show own_Go p e below _ (T415.setTop (mkF m 12 #[.val (.ref a), .val (.int (0 : Int32)), .val (.int (2 : Int32)), .val (.ref b411), .unset, .unset] [(.int (2 : Int32))]))
  refine own_st (fun u_ k_ => XS.istore X415.here hx rfl (hb hby own_d_jdk_52_16_12) rfl (l' := #[.val (.ref a), .val (.int (0 : Int32)), .val (.int (2 : Int32)), .val (.ref b411), .val (.int (2 : Int32)), .unset]) rfl k_) ?_
  show own_Go p e below _ (T415.setTop (mkF m 14 #[.val (.ref a), .val (.int (0 : Int32)), .val (.int (2 : Int32)), .val (.ref b411), .val (.int (2 : Int32)), .unset] []))
  refine own_st (fun u_ k_ => XS.iload X415.here hx rfl (hb hby own_d_jdk_52_16_14) rfl k_) ?_
  show own_Go p e below _ (T415.setTop (mkF m 16 #[.val (.ref a), .val (.int (0 : Int32)), .val (.int (2 : Int32)), .val (.ref b411), .val (.int (2 : Int32)), .unset] [(.int (2 : Int32))]))
  refine own_st (fun u_ k_ => XS.iloadN X415.here hx rfl (hb hby own_d_jdk_52_16_16) rfl k_) ?_
  show own_Go p e below _ (T415.setTop (mkF m 17 #[.val (.ref a), .val (.int (0 : Int32)), .val (.int (2 : Int32)), .val (.ref b411), .val (.int (2 : Int32)), .unset] [(.int (2 : Int32)), (.int (2 : Int32))]))
  refine own_st (fun u_ k_ => XS.icmpYes X415.here hx rfl (pc0 := 17) (pc' := 57) rfl (hb hby own_d_jdk_52_16_17) rfl (XT.ii_eq_t (by decide)) (by decide) (by decide) k_) ?_
  show own_Go p e below _ (T415.setTop (mkF m 57 #[.val (.ref a), .val (.int (0 : Int32)), .val (.int (2 : Int32)), .val (.ref b411), .val (.int (2 : Int32)), .unset] []))
  refine own_st (fun u_ k_ => XS.aloadN X415.here hx rfl (hb hby own_d_jdk_52_16_57) rfl rfl k_) ?_
  show own_Go p e below _ (T415.setTop (mkF m 58 #[.val (.ref a), .val (.int (0 : Int32)), .val (.int (2 : Int32)), .val (.ref b411), .val (.int (2 : Int32)), .unset] [(.ref b411)]))
  have K419 : Keep h0 h411 [] := (Keep.refl h0 []).ext E411
  have z421 : h0.size ≤ b411 := Nat.le_trans (Nat.le_refl _) (Nat.le_of_eq g411.symm)
  have K420 : Keep h0 T415.heap [] := K419.trans K415 (allS (Or.inr z421) all0)
  exact own_retX X415 hx hlk hret rfl (Or.inr (Or.inr (Or.inr (Or.inr ⟨rfl, rfl, rfl⟩)))) (hb hby own_d_jdk_52_16_58) (by decide) (by decide) (show QrmCq2_2 Z wcs a ka v0 v1 h0 n0 (some (.ref b411)) T415.heap _ from (by exact ⟨b411, k411, rfl, N415, K420, z421, F417, F418⟩))
theorem own_ef_rmCo2_2 (m : MethodId) (b : Addr)  : entryFrame m #[(.ref b), (.int (2 : Int32))] 2 = mkF m 0 #[.val (.ref b), .val (.int (2 : Int32))] [] := by first | (simp [entryFrame, mkF, argsToLocals, Value.category, maxLocals]; done) | rfl
def QrmCo2_2 (Z : State) (wcs : Int32) (b : Addr) (kb : ClassId) (vs : List Value) (h0 : Heap) (n0 : Nat) (v : Option Value) (h : Heap) (L : List Loc) : Prop := v = some (.int (0 : Int32)) ∧ Fr n0 L ∧ h = h0
set_option maxRecDepth 65536 in
set_option maxHeartbeats 40000000 in
theorem rmCo2_2 (l : Launch) (Z : State) (a0 : Array Value) (hw : own_H a0 Z) (ws : List Jvm.Cond) (wcs : Int32) (hS : own_S Z wcs) (b : Addr) (kb : ClassId) (vs : List Value) (h0 : Heap) (n0 : Nat) (O0 : Old Z n0 h0) (A2 : Arv Z h0 b kb .byte (2 : Int32) vs (.int (0 : Int32))) :
    own_Met l own_y_143 jdk_52_method_15_code 2 (some .byte) ws ({ frames := 0, cells := 0, slots := 0, locals := 0 } : Room) Z h0 #[(.ref b), (.int (2 : Int32))] (QrmCo2_2 Z wcs b kb vs h0 n0) := by
  refine own_body (plainFor_of_name own_pn_15) ?_
  intro p e s m below meth c s₁ hx hby hml hown hnm hret hlk hZ e0 X0
  have N0 := Fr.nil n0
  refine own_st (fun u_ k_ => castTop (own_ef_rmCo2_2 m b) k_) ?_
  show own_Go p e below _ (s₁.setTop (mkF m 0 #[.val (.ref b), .val (.int (2 : Int32))] []))
  refine own_st (fun u_ k_ => XS.iloadN X0.here hx rfl (hb hby own_d_jdk_52_15_0) rfl k_) ?_
  show own_Go p e below _ (s₁.setTop (mkF m 1 #[.val (.ref b), .val (.int (2 : Int32))] [(.int (2 : Int32))]))
  refine own_st (fun u_ k_ => XS.aloadN X0.here hx rfl (hb hby own_d_jdk_52_15_1) rfl rfl k_) ?_
  show own_Go p e below _ (s₁.setTop (mkF m 2 #[.val (.ref b), .val (.int (2 : Int32))] [(.ref b), (.int (2 : Int32))]))
  obtain ⟨cl422, Ar422, -, S422, N422, -, -⟩ := id A2
  refine own_st (X0.arraylength hx (by rw [e0]; exact Ar422.1) (State.isArrayOf_alike hZ.alike Ar422.2.1) (g := (mkF m 2 #[.val (.ref b), .val (.int (2 : Int32))] [(.ref b), (.int (2 : Int32))])) rfl rfl (hb hby own_d_jdk_52_15_2)) ?_
  rw [len_of S422 N422]
  show own_Go p e below _ (s₁.setTop (mkF m 3 #[.val (.ref b), .val (.int (2 : Int32))] [(.int (2 : Int32)), (.int (2 : Int32))]))
  refine own_st (fun u_ k_ => XS.isub X0.here hx rfl (hb hby own_d_jdk_52_15_3) rfl k_) ?_
  show own_Go p e below _ (s₁.setTop (mkF m 4 #[.val (.ref b), .val (.int (2 : Int32))] [(.int (0 : Int32))]))
  refine own_st (fun u_ k_ => XS.bipush X0.here hx rfl (hb hby own_d_jdk_52_15_4) k_) ?_
  show own_Go p e below _ (s₁.setTop (mkF m 6 #[.val (.ref b), .val (.int (2 : Int32))] [(.int (31 : Int32)), (.int (0 : Int32))]))
  refine own_st (fun u_ k_ => XS.iushr X0.here hx rfl (hb hby own_d_jdk_52_15_6) rfl k_) ?_
  show own_Go p e below _ (s₁.setTop (mkF m 7 #[.val (.ref b), .val (.int (2 : Int32))] [(.int (0 : Int32))]))
  refine own_st (fun u_ k_ => XS.i2b X0.here hx rfl (hb hby own_d_jdk_52_15_7) rfl k_) ?_
  show own_Go p e below _ (s₁.setTop (mkF m 8 #[.val (.ref b), .val (.int (2 : Int32))] [(.int (0 : Int32))]))
  exact own_retX X0 hx hlk hret rfl (Or.inl ⟨rfl, by simp, _, rfl⟩) (hb hby own_d_jdk_52_15_8) (by decide) (by decide) (show QrmCo2_2 Z wcs b kb vs h0 n0 (some (.int (0 : Int32))) s₁.heap _ from (by rw [e0]; exact ⟨rfl, N0, rfl⟩))
theorem own_ef_rmS4_2_2 (m : MethodId) (a : Addr) (b : Addr)  : entryFrame m #[(.ref a), (.ref b), (.int (0 : Int32)), (.int (2 : Int32)), .null] 6 = mkF m 0 #[.val (.ref a), .val (.ref b), .val (.int (0 : Int32)), .val (.int (2 : Int32)), .val .null, .unset] [] := by first | (simp [entryFrame, mkF, argsToLocals, Value.category, maxLocals]; done) | rfl
def QrmS4_2_2 (Z : State) (wcs : Int32) (a : Addr) (b : Addr) (kb : ClassId) (v0 : Int32) (v1 : Int32) (h0 : Heap) (n0 : Nat) (v : Option Value) (h : Heap) (L : List Loc) : Prop := ∃ r : Addr, ∃ kr : ClassId, v = none ∧ Fr n0 L ∧ Keep h0 h [a] ∧ h0.size ≤ r ∧ Exa Z h a "java/lang/String" ∧ Fld Z h a "java/lang/String" "value" "[B" (.ref r) ∧ Fld Z h a "java/lang/String" "coder" "B" (.int (0 : Int32)) ∧ Exa Z h r "[B" ∧ Arv Z h r kr .byte (2 : Int32) [(.int (v0.toInt8.toInt32)), (.int (v1.toInt8.toInt32))] (.int (0 : Int32))
set_option maxRecDepth 65536 in
set_option maxHeartbeats 40000000 in
theorem rmS4_2_2 (l : Launch) (Z : State) (a0 : Array Value) (hw : own_H a0 Z) (ws : List Jvm.Cond) (wcs : Int32) (hS : own_S Z wcs) (a : Addr) (b : Addr) (kb : ClassId) (v0 : Int32) (v1 : Int32) (h0 : Heap) (n0 : Nat) (O0 : Old Z n0 h0) (E : Exa Z h0 a "java/lang/String") (Ea : Exa Z h0 b "[C") (ga : n0 ≤ a) (F1 : Fld Z h0 a "java/lang/String" "value" "[B" .null) (F2 : Fld Z h0 a "java/lang/String" "coder" "B" (.int (0 : Int32))) (A1 : Arv Z h0 b kb .char (2 : Int32) [(.int v0), (.int v1)] (.int (0 : Int32))) (q0 : ¬ (255 : Int32) < v0) (q1 : ¬ (255 : Int32) < v1) :
    own_Met l own_y_172 jdk_42_method_149_code 6 none ws ({ frames := 2, cells := 1, slots := 2, locals := 35 } : Room) Z h0 #[(.ref a), (.ref b), (.int (0 : Int32)), (.int (2 : Int32)), .null] (QrmS4_2_2 Z wcs a b kb v0 v1 h0 n0) := by
  refine own_body (plainFor_of_name own_pn_173) ?_
  intro p e s m below meth c s₁ hx hby hml hown hnm hret hlk hZ e0 X0
  have N0 := Fr.nil n0
  refine own_st (fun u_ k_ => castTop (own_ef_rmS4_2_2 m a b) k_) ?_
  show own_Go p e below _ (s₁.setTop (mkF m 0 #[.val (.ref a), .val (.ref b), .val (.int (0 : Int32)), .val (.int (2 : Int32)), .val .null, .unset] []))
  refine own_st (fun u_ k_ => XS.aloadN X0.here hx rfl (hb hby own_d_jdk_42_149_0) rfl rfl k_) ?_
  show own_Go p e below _ (s₁.setTop (mkF m 1 #[.val (.ref a), .val (.ref b), .val (.int (0 : Int32)), .val (.int (2 : Int32)), .val .null, .unset] [(.ref a)]))
  obtain ⟨T423, X423, e423, st423⟩ := initO X0 hx hZ hown (own_w hw 12 rfl) (own_w hw 13 rfl) (own_w hw 14 rfl) e0 (g := (mkF m 1 #[.val (.ref a), .val (.ref b), .val (.int (0 : Int32)), .val (.int (2 : Int32)), .val .null, .unset] [(.ref a)])) rfl (by rw [hml]; rfl) rfl (hb hby own_d_jdk_42_149_1) (by decide) (W := 0) (by show 2 * 0 + _ ≤ _; exact Nat.le_of_eq rfl) (by decide)
  refine own_st (fun u_ k_ => st423 u_ k_) ?_
  show own_Go p e below _ (T423.setTop (mkF m 4 #[.val (.ref a), .val (.ref b), .val (.int (0 : Int32)), .val (.int (2 : Int32)), .val .null, .unset] []))
  refine own_st (fun u_ k_ => XS.iloadN X423.here hx rfl (hb hby own_d_jdk_42_149_4) rfl k_) ?_
  show own_Go p e below _ (T423.setTop (mkF m 5 #[.val (.ref a), .val (.ref b), .val (.int (0 : Int32)), .val (.int (2 : Int32)), .val .null, .unset] [(.int (2 : Int32))]))
  refine own_st (fun u_ k_ => XS.ifYes X423.here hx rfl (pc0 := 5) (pc' := 27) rfl (hb hby own_d_jdk_42_149_5) rfl (XT.i0_ne_t (by decide)) (by decide) (by decide) k_) ?_
  show own_Go p e below _ (T423.setTop (mkF m 27 #[.val (.ref a), .val (.ref b), .val (.int (0 : Int32)), .val (.int (2 : Int32)), .val .null, .unset] []))
  have F424 := Sta.ext O0.2 hS.1
  obtain ⟨T425, X425, e425, st425⟩ := getS2 X423 hx hZ hown (host := "") (Or.inl (own_w hw 15 rfl)) Via.refl e423 F424 (g := (mkF m 27 #[.val (.ref a), .val (.ref b), .val (.int (0 : Int32)), .val (.int (2 : Int32)), .val .null, .unset] [])) rfl (hb hby own_d_jdk_42_149_27)
  refine own_st (fun u_ k_ => st425 u_ k_) ?_
  show own_Go p e below _ (T425.setTop (mkF m 30 #[.val (.ref a), .val (.ref b), .val (.int (0 : Int32)), .val (.int (2 : Int32)), .val .null, .unset] [(.int wcs)]))
  refine own_st (fun u_ k_ => XS.ifNo X425.here hx rfl (hb hby own_d_jdk_42_149_30) rfl (XT.i0_eq_f hS.2.1) k_) ?_
  show own_Go p e below _ (T425.setTop (mkF m 33 #[.val (.ref a), .val (.ref b), .val (.int (0 : Int32)), .val (.int (2 : Int32)), .val .null, .unset] []))
  refine own_st (fun u_ k_ => XS.aloadN X425.here hx rfl (hb hby own_d_jdk_42_149_33) rfl rfl k_) ?_
  show own_Go p e below _ (T425.setTop (mkF m 34 #[.val (.ref a), .val (.ref b), .val (.int (0 : Int32)), .val (.int (2 : Int32)), .val .null, .unset] [(.ref b)]))
  refine own_st (fun u_ k_ => XS.iloadN X425.here hx rfl (hb hby own_d_jdk_42_149_34) rfl k_) ?_
  show own_Go p e below _ (T425.setTop (mkF m 35 #[.val (.ref a), .val (.ref b), .val (.int (0 : Int32)), .val (.int (2 : Int32)), .val .null, .unset] [(.int (0 : Int32)), (.ref b)]))
  refine own_st (fun u_ k_ => XS.iloadN X425.here hx rfl (hb hby own_d_jdk_42_149_35) rfl k_) ?_
  show own_Go p e below _ (T425.setTop (mkF m 36 #[.val (.ref a), .val (.ref b), .val (.int (0 : Int32)), .val (.int (2 : Int32)), .val .null, .unset] [(.int (2 : Int32)), (.int (0 : Int32)), (.ref b)]))
  obtain ⟨T426, v426, L426, X426, hQ426, st426⟩ := own_callS X425 hx hZ (y := own_y_134) hown (own_w hw 16 rfl) (own_w hw 17 rfl) (own_w hw 18 rfl) (own_w hw 19 rfl) own_lm_28 (rmCq2_2 l Z a0 hw [] wcs hS b kb v0 v1 h0 n0 O0 Ea A1 (by assumption) (by assumption)) e425 own_pd_124 (argsL := [(.ref b), (.int (0 : Int32)), (.int (2 : Int32))]) (rest := []) rfl rfl (g := (mkF m 36 #[.val (.ref a), .val (.ref b), .val (.int (0 : Int32)), .val (.int (2 : Int32)), .val .null, .unset] [(.int (2 : Int32)), (.int (0 : Int32)), (.ref b)])) rfl (by rw [hml]; rfl) rfl (hb hby own_d_jdk_42_149_36) (W := 0) rfl (by decide) (by decide) (by decide) (by decide)
  obtain ⟨r_427, kr_428, rfl, M426, K426, z429, F430, F431⟩ := hQ426
  have N426 := Fr.app N0 M426
  refine own_st (fun u_ k_ => st426 u_ k_) ?_
  show own_Go p e below _ (T426.setTop (mkF m 39 #[.val (.ref a), .val (.ref b), .val (.int (0 : Int32)), .val (.int (2 : Int32)), .val .null, .unset] [(.ref r_427)]))
  refine own_st (fun u_ k_ => XS.astore X426.here hx rfl (hb hby own_d_jdk_42_149_39) rfl rfl (l' := #[.val (.ref a), .val (.ref b), .val (.int (0 : Int32)), .val (.int (2 : Int32)), .val .null, .val (.ref r_427)]) rfl k_) ?_
  show own_Go p e below _ (T426.setTop (mkF m 41 #[.val (.ref a), .val (.ref b), .val (.int (0 : Int32)), .val (.int (2 : Int32)), .val .null, .val (.ref r_427)] []))
  refine own_st (fun u_ k_ => XS.aloadN X426.here hx rfl (hb hby own_d_jdk_42_149_41) rfl rfl k_) ?_
  show own_Go p e below _ (T426.setTop (mkF m 42 #[.val (.ref a), .val (.ref b), .val (.int (0 : Int32)), .val (.int (2 : Int32)), .val .null, .val (.ref r_427)] [(.ref a)]))
  refine own_st (fun u_ k_ => XS.aload X426.here hx rfl (hb hby own_d_jdk_42_149_42) rfl rfl k_) ?_
  show own_Go p e below _ (T426.setTop (mkF m 44 #[.val (.ref a), .val (.ref b), .val (.int (0 : Int32)), .val (.int (2 : Int32)), .val .null, .val (.ref r_427)] [(.ref r_427), (.ref a)]))
  refine own_st (fun u_ k_ => XS.iloadN X426.here hx rfl (hb hby own_d_jdk_42_149_44) rfl k_) ?_
  show own_Go p e below _ (T426.setTop (mkF m 45 #[.val (.ref a), .val (.ref b), .val (.int (0 : Int32)), .val (.int (2 : Int32)), .val .null, .val (.ref r_427)] [(.int (2 : Int32)), (.ref r_427), (.ref a)]))
  have O433 : Old Z n0 T426.heap := O0.keep K426 all0
  obtain ⟨T432, v432, L432, X432, hQ432, st432⟩ := own_callS X426 hx hZ (y := own_y_143) hown (own_w hw 24 rfl) (own_w hw 25 rfl) (own_w hw 18 rfl) (own_w hw 26 rfl) own_lm_28 (rmCo2_2 l Z a0 hw [] wcs hS r_427 kr_428 [(.int (v0.toInt8.toInt32)), (.int (v1.toInt8.toInt32))] T426.heap n0 O433 F431) rfl own_pd_160 (argsL := [(.ref r_427), (.int (2 : Int32))]) (rest := [(.ref a)]) rfl rfl (g := (mkF m 45 #[.val (.ref a), .val (.ref b), .val (.int (0 : Int32)), .val (.int (2 : Int32)), .val .null, .val (.ref r_427)] [(.int (2 : Int32)), (.ref r_427), (.ref a)])) rfl (by rw [hml]; rfl) rfl (hb hby own_d_jdk_42_149_45) (W := 1) rfl (by decide) (by decide) (by decide) (by decide)
  obtain ⟨rfl, M432, e432⟩ := hQ432
  have N432 := Fr.app N426 M432
  refine own_st (fun u_ k_ => st432 u_ k_) ?_
  show own_Go p e below _ (T432.setTop (mkF m 48 #[.val (.ref a), .val (.ref b), .val (.int (0 : Int32)), .val (.int (2 : Int32)), .val .null, .val (.ref r_427)] [(.int (0 : Int32)), (.ref a)]))
  have F434 := (E.keep K426)
  have F435 := (F2.keep K426 nin0)
  obtain ⟨T436, h436, X436, e436, W436, st436⟩ := putF X432 hx hZ hown (host := "") (Or.inl (own_w hw 27 rfl)) Via.refl e432 F435 F434 (Or.inr ⟨(own_w hw 28 rfl), rfl, hnm⟩) (own_w hw 3 rfl) (ty := .byte) own_lm_162 rfl rfl (g := (mkF m 48 #[.val (.ref a), .val (.ref b), .val (.int (0 : Int32)), .val (.int (2 : Int32)), .val .null, .val (.ref r_427)] [(.int (0 : Int32)), (.ref a)])) rfl rfl (hb hby own_d_jdk_42_149_48)
  have N436 := Fr.snoc X436 N432 ga
  have F437 : Fld Z h436 a "java/lang/String" "coder" "B" (.int (0 : Int32)) := Fld.same W436 F435
  refine own_st (fun u_ k_ => st436 u_ k_) ?_
  show own_Go p e below _ (T436.setTop (mkF m 51 #[.val (.ref a), .val (.ref b), .val (.int (0 : Int32)), .val (.int (2 : Int32)), .val .null, .val (.ref r_427)] []))
  refine own_st (fun u_ k_ => XS.aloadN X436.here hx rfl (hb hby own_d_jdk_42_149_51) rfl rfl k_) ?_
  show own_Go p e below _ (T436.setTop (mkF m 52 #[.val (.ref a), .val (.ref b), .val (.int (0 : Int32)), .val (.int (2 : Int32)), .val .null, .val (.ref r_427)] [(.ref a)]))
  refine own_st (fun u_ k_ => XS.aload X436.here hx rfl (hb hby own_d_jdk_42_149_52) rfl rfl k_) ?_
  show own_Go p e below _ (T436.setTop (mkF m 54 #[.val (.ref a), .val (.ref b), .val (.int (0 : Int32)), .val (.int (2 : Int32)), .val .null, .val (.ref r_427)] [(.ref r_427), (.ref a)]))
  have F438 := (Exa.wr W436 F434)
  have F439 := (Fld.other W436 (F1.keep K426 nin0) (Or.inr (own_sn_168 hw)))
  obtain ⟨T440, h440, X440, e440, W440, st440⟩ := putF X436 hx hZ hown (host := "") (Or.inl (own_w hw 29 rfl)) Via.refl e436 F439 F438 (Or.inr ⟨(own_w hw 30 rfl), rfl, hnm⟩) (own_w hw 3 rfl) (ty := (.array .byte)) own_lm_167 rfl rfl (g := (mkF m 54 #[.val (.ref a), .val (.ref b), .val (.int (0 : Int32)), .val (.int (2 : Int32)), .val .null, .val (.ref r_427)] [(.ref r_427), (.ref a)])) rfl rfl (hb hby own_d_jdk_42_149_54)
  have N440 := Fr.snoc X440 N436 ga
  have F441 : Fld Z h440 a "java/lang/String" "value" "[B" (.ref r_427) := Fld.same W440 F439
  refine own_st (fun u_ k_ => st440 u_ k_) ?_
  show own_Go p e below _ (T440.setTop (mkF m 57 #[.val (.ref a), .val (.ref b), .val (.int (0 : Int32)), .val (.int (2 : Int32)), .val .null, .val (.ref r_427)] []))
  have K442 : Keep h0 T426.heap [a] := (Keep.refl h0 [a]).trans K426 all0
  have K443 : Keep h0 h436 [a] := K442.wr W436 (Or.inl (List.mem_of_getElem? (i := 0) rfl))
  have K444 : Keep h0 h440 [a] := K443.wr W440 (Or.inl (List.mem_of_getElem? (i := 0) rfl))
  have z445 : h0.size ≤ r_427 := Nat.le_trans (Nat.le_refl _) z429
  have F446 := (Exa.wr W440 F438)
  have F447 := (Fld.other W440 F437 (Or.inr (own_sn_171 hw)))
  have F448 := (Exa.wr W440 (Exa.wr W436 F430))
  have ne449 : r_427 ≠ a := (Ne.symm (Nat.ne_of_lt (Nat.lt_of_lt_of_le E.lt z429)))
  have F450 := ((F431.other W436 ne449).other W440 ne449)
  exact own_retV X440 hx hlk hret (hb hby own_d_jdk_42_149_57) (by decide) (by decide) (show QrmS4_2_2 Z wcs a b kb v0 v1 h0 n0 none T440.heap _ from (by rw [e440]; exact ⟨r_427, kr_428, rfl, N440, K444, z445, F446, F441, F447, F448, F450⟩))
theorem own_ef_rmS1_2_0 (m : MethodId) (a : Addr) (b : Addr)  : entryFrame m #[(.ref a), (.ref b)] 2 = mkF m 0 #[.val (.ref a), .val (.ref b)] [] := by first | (simp [entryFrame, mkF, argsToLocals, Value.category, maxLocals]; done) | rfl
def QrmS1_2_0 (Z : State) (wcs : Int32) (a : Addr) (b : Addr) (kb : ClassId) (v0 : Int32) (v1 : Int32) (h0 : Heap) (n0 : Nat) (v : Option Value) (h : Heap) (L : List Loc) : Prop := ∃ r : Addr, ∃ kr : ClassId, v = none ∧ Fr n0 L ∧ Keep h0 h [a] ∧ h0.size ≤ r ∧ Exa Z h a "java/lang/String" ∧ Fld Z h a "java/lang/String" "value" "[B" (.ref r) ∧ Fld Z h a "java/lang/String" "coder" "B" (.int (1 : Int32)) ∧ Exa Z h r "[B" ∧ Arv Z h r kr .byte (4 : Int32) [(.int ((v0 >>> ((0 : Int32) &&& 31)).toInt8.toInt32)), (.int ((v0 >>> ((8 : Int32) &&& 31)).toInt8.toInt32)), (.int ((v1 >>> ((0 : Int32) &&& 31)).toInt8.toInt32)), (.int ((v1 >>> ((8 : Int32) &&& 31)).toInt8.toInt32))] (.int (0 : Int32))
set_option maxRecDepth 65536 in
set_option maxHeartbeats 40000000 in
theorem rmS1_2_0 (l : Launch) (Z : State) (a0 : Array Value) (hw : own_H a0 Z) (ws : List Jvm.Cond) (wcs : Int32) (hS : own_S Z wcs) (a : Addr) (b : Addr) (kb : ClassId) (v0 : Int32) (v1 : Int32) (h0 : Heap) (n0 : Nat) (O0 : Old Z n0 h0) (E : Exa Z h0 a "java/lang/String") (Ea : Exa Z h0 b "[C") (ga : n0 ≤ a) (F1 : Fld Z h0 a "java/lang/String" "value" "[B" .null) (F2 : Fld Z h0 a "java/lang/String" "coder" "B" (.int (0 : Int32))) (A1 : Arv Z h0 b kb .char (2 : Int32) [(.int v0), (.int v1)] (.int (0 : Int32))) (q0 : (255 : Int32) < v0) (w0 : own_C16 v0) (w1 : own_C16 v1) :
    own_Met l own_y_198 jdk_42_method_3_code 2 none ws ({ frames := 5, cells := 2, slots := 6, locals := 74 } : Room) Z h0 #[(.ref a), (.ref b)] (QrmS1_2_0 Z wcs a b kb v0 v1 h0 n0) := by
  refine own_body (plainFor_of_name own_pn_173) ?_
  intro p e s m below meth c s₁ hx hby hml hown hnm hret hlk hZ e0 X0
  have N0 := Fr.nil n0
  refine own_st (fun u_ k_ => castTop (own_ef_rmS1_2_0 m a b) k_) ?_
  show own_Go p e below _ (s₁.setTop (mkF m 0 #[.val (.ref a), .val (.ref b)] []))
  refine own_st (fun u_ k_ => XS.aloadN X0.here hx rfl (hb hby own_d_jdk_42_3_0) rfl rfl k_) ?_
  show own_Go p e below _ (s₁.setTop (mkF m 1 #[.val (.ref a), .val (.ref b)] [(.ref a)]))
  refine own_st (fun u_ k_ => XS.aloadN X0.here hx rfl (hb hby own_d_jdk_42_3_1) rfl rfl k_) ?_
  show own_Go p e below _ (s₁.setTop (mkF m 2 #[.val (.ref a), .val (.ref b)] [(.ref b), (.ref a)]))
  refine own_st (fun u_ k_ => XS.iconst X0.here hx rfl (hb hby own_d_jdk_42_3_2) k_) ?_
  show own_Go p e below _ (s₁.setTop (mkF m 3 #[.val (.ref a), .val (.ref b)] [(.int (0 : Int32)), (.ref b), (.ref a)]))
  refine own_st (fun u_ k_ => XS.aloadN X0.here hx rfl (hb hby own_d_jdk_42_3_3) rfl rfl k_) ?_
  show own_Go p e below _ (s₁.setTop (mkF m 4 #[.val (.ref a), .val (.ref b)] [(.ref b), (.int (0 : Int32)), (.ref b), (.ref a)]))
  obtain ⟨cl463, Ar463, -, S463, N463, -, -⟩ := id A1
  refine own_st (X0.arraylength hx (by rw [e0]; exact Ar463.1) (State.isArrayOf_alike hZ.alike Ar463.2.1) (g := (mkF m 4 #[.val (.ref a), .val (.ref b)] [(.ref b), (.int (0 : Int32)), (.ref b), (.ref a)])) rfl rfl (hb hby own_d_jdk_42_3_4)) ?_
  rw [len_of S463 N463]
  show own_Go p e below _ (s₁.setTop (mkF m 5 #[.val (.ref a), .val (.ref b)] [(.int (2 : Int32)), (.int (0 : Int32)), (.ref b), (.ref a)]))
  refine own_st (fun u_ k_ => XS.aconstNull X0.here hx rfl (hb hby own_d_jdk_42_3_5) k_) ?_
  show own_Go p e below _ (s₁.setTop (mkF m 6 #[.val (.ref a), .val (.ref b)] [.null, (.int (2 : Int32)), (.int (0 : Int32)), (.ref b), (.ref a)]))
  obtain ⟨T464, v464, L464, X464, hQ464, st464⟩ := own_callN X0 hx hZ (y := own_y_172) rfl hown (own_w hw 8 rfl) (own_w hw 9 rfl) (own_w hw 4 rfl) (own_w hw 11 rfl) own_lm_181 (rmS4_2_0 l Z a0 hw [] wcs hS a b kb v0 v1 h0 n0 O0 E Ea ga F1 F2 A1 (by assumption) (by assumption) (by assumption)) e0 own_pd_182 (a := a) (argsL := [(.ref b), (.int (0 : Int32)), (.int (2 : Int32)), .null]) (rest := []) rfl rfl (g := (mkF m 6 #[.val (.ref a), .val (.ref b)] [.null, (.int (2 : Int32)), (.int (0 : Int32)), (.ref b), (.ref a)])) rfl (by rw [hml]; rfl) rfl (hb hby own_d_jdk_42_3_6) (W := 0) rfl (by decide) (by decide) (by decide) (by decide)
  obtain ⟨r_465, kr_466, rfl, M464, K464, z467, F468, F469, F470, F471, F472⟩ := hQ464
  have N464 := Fr.app N0 M464
  refine own_st (fun u_ k_ => st464 u_ k_) ?_
  show own_Go p e below _ (T464.setTop (mkF m 9 #[.val (.ref a), .val (.ref b)] []))
  have K473 : Keep h0 T464.heap [a] := (Keep.refl h0 [a]).trans K464 (allS (Or.inl (List.mem_of_getElem? (i := 0) rfl)) all0)
  have z474 : h0.size ≤ r_465 := Nat.le_trans (Nat.le_refl _) z467
  exact own_retV X464 hx hlk hret (hb hby own_d_jdk_42_3_9) (by decide) (by decide) (show QrmS1_2_0 Z wcs a b kb v0 v1 h0 n0 none T464.heap _ from (by exact ⟨r_465, kr_466, rfl, N464, K473, z474, F468, F469, F470, F471, F472⟩))
theorem own_ef_rmS1_2_1 (m : MethodId) (a : Addr) (b : Addr)  : entryFrame m #[(.ref a), (.ref b)] 2 = mkF m 0 #[.val (.ref a), .val (.ref b)] [] := by first | (simp [entryFrame, mkF, argsToLocals, Value.category, maxLocals]; done) | rfl
def QrmS1_2_1 (Z : State) (wcs : Int32) (a : Addr) (b : Addr) (kb : ClassId) (v0 : Int32) (v1 : Int32) (h0 : Heap) (n0 : Nat) (v : Option Value) (h : Heap) (L : List Loc) : Prop := ∃ r : Addr, ∃ kr : ClassId, v = none ∧ Fr n0 L ∧ Keep h0 h [a] ∧ h0.size ≤ r ∧ Exa Z h a "java/lang/String" ∧ Fld Z h a "java/lang/String" "value" "[B" (.ref r) ∧ Fld Z h a "java/lang/String" "coder" "B" (.int (1 : Int32)) ∧ Exa Z h r "[B" ∧ Arv Z h r kr .byte (4 : Int32) [(.int ((v0 >>> ((0 : Int32) &&& 31)).toInt8.toInt32)), (.int ((v0 >>> ((8 : Int32) &&& 31)).toInt8.toInt32)), (.int ((v1 >>> ((0 : Int32) &&& 31)).toInt8.toInt32)), (.int ((v1 >>> ((8 : Int32) &&& 31)).toInt8.toInt32))] (.int (0 : Int32))
set_option maxRecDepth 65536 in
set_option maxHeartbeats 40000000 in
theorem rmS1_2_1 (l : Launch) (Z : State) (a0 : Array Value) (hw : own_H a0 Z) (ws : List Jvm.Cond) (wcs : Int32) (hS : own_S Z wcs) (a : Addr) (b : Addr) (kb : ClassId) (v0 : Int32) (v1 : Int32) (h0 : Heap) (n0 : Nat) (O0 : Old Z n0 h0) (E : Exa Z h0 a "java/lang/String") (Ea : Exa Z h0 b "[C") (ga : n0 ≤ a) (F1 : Fld Z h0 a "java/lang/String" "value" "[B" .null) (F2 : Fld Z h0 a "java/lang/String" "coder" "B" (.int (0 : Int32))) (A1 : Arv Z h0 b kb .char (2 : Int32) [(.int v0), (.int v1)] (.int (0 : Int32))) (q0 : ¬ (255 : Int32) < v0) (q1 : (255 : Int32) < v1) (w0 : own_C16 v0) (w1 : own_C16 v1) :
    own_Met l own_y_198 jdk_42_method_3_code 2 none ws ({ frames := 5, cells := 2, slots := 6, locals := 74 } : Room) Z h0 #[(.ref a), (.ref b)] (QrmS1_2_1 Z wcs a b kb v0 v1 h0 n0) := by
  refine own_body (plainFor_of_name own_pn_173) ?_
  intro p e s m below meth c s₁ hx hby hml hown hnm hret hlk hZ e0 X0
  have N0 := Fr.nil n0
  refine own_st (fun u_ k_ => castTop (own_ef_rmS1_2_1 m a b) k_) ?_
  show own_Go p e below _ (s₁.setTop (mkF m 0 #[.val (.ref a), .val (.ref b)] []))
  refine own_st (fun u_ k_ => XS.aloadN X0.here hx rfl (hb hby own_d_jdk_42_3_0) rfl rfl k_) ?_
  show own_Go p e below _ (s₁.setTop (mkF m 1 #[.val (.ref a), .val (.ref b)] [(.ref a)]))
  refine own_st (fun u_ k_ => XS.aloadN X0.here hx rfl (hb hby own_d_jdk_42_3_1) rfl rfl k_) ?_
  show own_Go p e below _ (s₁.setTop (mkF m 2 #[.val (.ref a), .val (.ref b)] [(.ref b), (.ref a)]))
  refine own_st (fun u_ k_ => XS.iconst X0.here hx rfl (hb hby own_d_jdk_42_3_2) k_) ?_
  show own_Go p e below _ (s₁.setTop (mkF m 3 #[.val (.ref a), .val (.ref b)] [(.int (0 : Int32)), (.ref b), (.ref a)]))
  refine own_st (fun u_ k_ => XS.aloadN X0.here hx rfl (hb hby own_d_jdk_42_3_3) rfl rfl k_) ?_
  show own_Go p e below _ (s₁.setTop (mkF m 4 #[.val (.ref a), .val (.ref b)] [(.ref b), (.int (0 : Int32)), (.ref b), (.ref a)]))
  obtain ⟨cl475, Ar475, -, S475, N475, -, -⟩ := id A1
  refine own_st (X0.arraylength hx (by rw [e0]; exact Ar475.1) (State.isArrayOf_alike hZ.alike Ar475.2.1) (g := (mkF m 4 #[.val (.ref a), .val (.ref b)] [(.ref b), (.int (0 : Int32)), (.ref b), (.ref a)])) rfl rfl (hb hby own_d_jdk_42_3_4)) ?_
  rw [len_of S475 N475]
  show own_Go p e below _ (s₁.setTop (mkF m 5 #[.val (.ref a), .val (.ref b)] [(.int (2 : Int32)), (.int (0 : Int32)), (.ref b), (.ref a)]))
  refine own_st (fun u_ k_ => XS.aconstNull X0.here hx rfl (hb hby own_d_jdk_42_3_5) k_) ?_
  show own_Go p e below _ (s₁.setTop (mkF m 6 #[.val (.ref a), .val (.ref b)] [.null, (.int (2 : Int32)), (.int (0 : Int32)), (.ref b), (.ref a)]))
  obtain ⟨T476, v476, L476, X476, hQ476, st476⟩ := own_callN X0 hx hZ (y := own_y_172) rfl hown (own_w hw 8 rfl) (own_w hw 9 rfl) (own_w hw 4 rfl) (own_w hw 11 rfl) own_lm_181 (rmS4_2_1 l Z a0 hw [] wcs hS a b kb v0 v1 h0 n0 O0 E Ea ga F1 F2 A1 (by assumption) (by assumption) (by assumption) (by assumption)) e0 own_pd_182 (a := a) (argsL := [(.ref b), (.int (0 : Int32)), (.int (2 : Int32)), .null]) (rest := []) rfl rfl (g := (mkF m 6 #[.val (.ref a), .val (.ref b)] [.null, (.int (2 : Int32)), (.int (0 : Int32)), (.ref b), (.ref a)])) rfl (by rw [hml]; rfl) rfl (hb hby own_d_jdk_42_3_6) (W := 0) rfl (by decide) (by decide) (by decide) (by decide)
  obtain ⟨r_477, kr_478, rfl, M476, K476, z479, F480, F481, F482, F483, F484⟩ := hQ476
  have N476 := Fr.app N0 M476
  refine own_st (fun u_ k_ => st476 u_ k_) ?_
  show own_Go p e below _ (T476.setTop (mkF m 9 #[.val (.ref a), .val (.ref b)] []))
  have K485 : Keep h0 T476.heap [a] := (Keep.refl h0 [a]).trans K476 (allS (Or.inl (List.mem_of_getElem? (i := 0) rfl)) all0)
  have z486 : h0.size ≤ r_477 := Nat.le_trans (Nat.le_refl _) z479
  exact own_retV X476 hx hlk hret (hb hby own_d_jdk_42_3_9) (by decide) (by decide) (show QrmS1_2_1 Z wcs a b kb v0 v1 h0 n0 none T476.heap _ from (by exact ⟨r_477, kr_478, rfl, N476, K485, z486, F480, F481, F482, F483, F484⟩))
theorem own_ef_rmS1_2_2 (m : MethodId) (a : Addr) (b : Addr)  : entryFrame m #[(.ref a), (.ref b)] 2 = mkF m 0 #[.val (.ref a), .val (.ref b)] [] := by first | (simp [entryFrame, mkF, argsToLocals, Value.category, maxLocals]; done) | rfl
def QrmS1_2_2 (Z : State) (wcs : Int32) (a : Addr) (b : Addr) (kb : ClassId) (v0 : Int32) (v1 : Int32) (h0 : Heap) (n0 : Nat) (v : Option Value) (h : Heap) (L : List Loc) : Prop := ∃ r : Addr, ∃ kr : ClassId, v = none ∧ Fr n0 L ∧ Keep h0 h [a] ∧ h0.size ≤ r ∧ Exa Z h a "java/lang/String" ∧ Fld Z h a "java/lang/String" "value" "[B" (.ref r) ∧ Fld Z h a "java/lang/String" "coder" "B" (.int (0 : Int32)) ∧ Exa Z h r "[B" ∧ Arv Z h r kr .byte (2 : Int32) [(.int (v0.toInt8.toInt32)), (.int (v1.toInt8.toInt32))] (.int (0 : Int32))
set_option maxRecDepth 65536 in
set_option maxHeartbeats 40000000 in
theorem rmS1_2_2 (l : Launch) (Z : State) (a0 : Array Value) (hw : own_H a0 Z) (ws : List Jvm.Cond) (wcs : Int32) (hS : own_S Z wcs) (a : Addr) (b : Addr) (kb : ClassId) (v0 : Int32) (v1 : Int32) (h0 : Heap) (n0 : Nat) (O0 : Old Z n0 h0) (E : Exa Z h0 a "java/lang/String") (Ea : Exa Z h0 b "[C") (ga : n0 ≤ a) (F1 : Fld Z h0 a "java/lang/String" "value" "[B" .null) (F2 : Fld Z h0 a "java/lang/String" "coder" "B" (.int (0 : Int32))) (A1 : Arv Z h0 b kb .char (2 : Int32) [(.int v0), (.int v1)] (.int (0 : Int32))) (q0 : ¬ (255 : Int32) < v0) (q1 : ¬ (255 : Int32) < v1) :
    own_Met l own_y_198 jdk_42_method_3_code 2 none ws ({ frames := 5, cells := 2, slots := 6, locals := 74 } : Room) Z h0 #[(.ref a), (.ref b)] (QrmS1_2_2 Z wcs a b kb v0 v1 h0 n0) := by
  refine own_body (plainFor_of_name own_pn_173) ?_
  intro p e s m below meth c s₁ hx hby hml hown hnm hret hlk hZ e0 X0
  have N0 := Fr.nil n0
  refine own_st (fun u_ k_ => castTop (own_ef_rmS1_2_2 m a b) k_) ?_
  show own_Go p e below _ (s₁.setTop (mkF m 0 #[.val (.ref a), .val (.ref b)] []))
  refine own_st (fun u_ k_ => XS.aloadN X0.here hx rfl (hb hby own_d_jdk_42_3_0) rfl rfl k_) ?_
  show own_Go p e below _ (s₁.setTop (mkF m 1 #[.val (.ref a), .val (.ref b)] [(.ref a)]))
  refine own_st (fun u_ k_ => XS.aloadN X0.here hx rfl (hb hby own_d_jdk_42_3_1) rfl rfl k_) ?_
  show own_Go p e below _ (s₁.setTop (mkF m 2 #[.val (.ref a), .val (.ref b)] [(.ref b), (.ref a)]))
  refine own_st (fun u_ k_ => XS.iconst X0.here hx rfl (hb hby own_d_jdk_42_3_2) k_) ?_
  show own_Go p e below _ (s₁.setTop (mkF m 3 #[.val (.ref a), .val (.ref b)] [(.int (0 : Int32)), (.ref b), (.ref a)]))
  refine own_st (fun u_ k_ => XS.aloadN X0.here hx rfl (hb hby own_d_jdk_42_3_3) rfl rfl k_) ?_
  show own_Go p e below _ (s₁.setTop (mkF m 4 #[.val (.ref a), .val (.ref b)] [(.ref b), (.int (0 : Int32)), (.ref b), (.ref a)]))
  obtain ⟨cl487, Ar487, -, S487, N487, -, -⟩ := id A1
  refine own_st (X0.arraylength hx (by rw [e0]; exact Ar487.1) (State.isArrayOf_alike hZ.alike Ar487.2.1) (g := (mkF m 4 #[.val (.ref a), .val (.ref b)] [(.ref b), (.int (0 : Int32)), (.ref b), (.ref a)])) rfl rfl (hb hby own_d_jdk_42_3_4)) ?_
  rw [len_of S487 N487]
  show own_Go p e below _ (s₁.setTop (mkF m 5 #[.val (.ref a), .val (.ref b)] [(.int (2 : Int32)), (.int (0 : Int32)), (.ref b), (.ref a)]))
  refine own_st (fun u_ k_ => XS.aconstNull X0.here hx rfl (hb hby own_d_jdk_42_3_5) k_) ?_
  show own_Go p e below _ (s₁.setTop (mkF m 6 #[.val (.ref a), .val (.ref b)] [.null, (.int (2 : Int32)), (.int (0 : Int32)), (.ref b), (.ref a)]))
  obtain ⟨T488, v488, L488, X488, hQ488, st488⟩ := own_callN X0 hx hZ (y := own_y_172) rfl hown (own_w hw 8 rfl) (own_w hw 9 rfl) (own_w hw 4 rfl) (own_w hw 11 rfl) own_lm_181 (rmS4_2_2 l Z a0 hw [] wcs hS a b kb v0 v1 h0 n0 O0 E Ea ga F1 F2 A1 (by assumption) (by assumption)) e0 own_pd_182 (a := a) (argsL := [(.ref b), (.int (0 : Int32)), (.int (2 : Int32)), .null]) (rest := []) rfl rfl (g := (mkF m 6 #[.val (.ref a), .val (.ref b)] [.null, (.int (2 : Int32)), (.int (0 : Int32)), (.ref b), (.ref a)])) rfl (by rw [hml]; rfl) rfl (hb hby own_d_jdk_42_3_6) (W := 0) rfl (by decide) (by decide) (by decide) (by decide)
  obtain ⟨r_489, kr_490, rfl, M488, K488, z491, F492, F493, F494, F495, F496⟩ := hQ488
  have N488 := Fr.app N0 M488
  refine own_st (fun u_ k_ => st488 u_ k_) ?_
  show own_Go p e below _ (T488.setTop (mkF m 9 #[.val (.ref a), .val (.ref b)] []))
  have K497 : Keep h0 T488.heap [a] := (Keep.refl h0 [a]).trans K488 (allS (Or.inl (List.mem_of_getElem? (i := 0) rfl)) all0)
  have z498 : h0.size ≤ r_489 := Nat.le_trans (Nat.le_refl _) z491
  exact own_retV X488 hx hlk hret (hb hby own_d_jdk_42_3_9) (by decide) (by decide) (show QrmS1_2_2 Z wcs a b kb v0 v1 h0 n0 none T488.heap _ from (by exact ⟨r_489, kr_490, rfl, N488, K497, z498, F492, F493, F494, F495, F496⟩))
def QrmSJ_2 (Z : State) (wcs : Int32) (a : Addr) (b : Addr) (kb : ClassId) (v0 : Int32) (v1 : Int32) (h0 : Heap) (n0 : Nat) (v : Option Value) (h : Heap) (L : List Loc) : Prop := ∃ r : Addr, ∃ kr : ClassId, ∃ cd : Int32, ∃ ln : Int32, ∃ us : List Value, v = none ∧ Fr n0 L ∧ Keep h0 h [a] ∧ h0.size ≤ r ∧ Exa Z h a "java/lang/String" ∧ Fld Z h a "java/lang/String" "value" "[B" (.ref r) ∧ Fld Z h a "java/lang/String" "coder" "B" (.int cd) ∧ Exa Z h r "[B" ∧ Arv Z h r kr .byte ln us (.int (0 : Int32)) ∧ (ln >>> (cd &&& 31)) = (2 : Int32)
theorem rmSJ_2 (l : Launch) (Z : State) (a0 : Array Value) (hw : own_H a0 Z) (ws : List Jvm.Cond) (wcs : Int32) (hS : own_S Z wcs) (a : Addr) (b : Addr) (kb : ClassId) (v0 : Int32) (v1 : Int32) (h0 : Heap) (n0 : Nat) (O0 : Old Z n0 h0) (E : Exa Z h0 a "java/lang/String") (Ea : Exa Z h0 b "[C") (ga : n0 ≤ a) (F1 : Fld Z h0 a "java/lang/String" "value" "[B" .null) (F2 : Fld Z h0 a "java/lang/String" "coder" "B" (.int (0 : Int32))) (A1 : Arv Z h0 b kb .char (2 : Int32) [(.int v0), (.int v1)] (.int (0 : Int32))) (w0 : own_C16 v0) (w1 : own_C16 v1) :
    own_Met l own_y_198 jdk_42_method_3_code 2 none ws ({ frames := 5, cells := 2, slots := 6, locals := 74 } : Room) Z h0 #[(.ref a), (.ref b)] (QrmSJ_2 Z wcs a b kb v0 v1 h0 n0) := by
  by_cases q0 : (255 : Int32) < v0
  · refine MetFree.imp (rmS1_2_0 l Z a0 hw ws wcs hS a b kb v0 v1 h0 n0 O0 E Ea ga F1 F2 A1 q0 w0 w1) ?_
    rintro _ _ _ _ ⟨v, L, e, ⟨r, kr, b1, b2, b3, b4, b5, b6, b7, b8, b9⟩, f⟩
    exact ⟨v, L, e, ⟨r, kr, (1 : Int32), (4 : Int32), [(.int ((v0 >>> ((0 : Int32) &&& 31)).toInt8.toInt32)), (.int ((v0 >>> ((8 : Int32) &&& 31)).toInt8.toInt32)), (.int ((v1 >>> ((0 : Int32) &&& 31)).toInt8.toInt32)), (.int ((v1 >>> ((8 : Int32) &&& 31)).toInt8.toInt32))], b1, b2, b3, b4, b5, b6, b7, b8, b9, by decide⟩, f⟩
  · skip
    by_cases q1 : (255 : Int32) < v1
    · refine MetFree.imp (rmS1_2_1 l Z a0 hw ws wcs hS a b kb v0 v1 h0 n0 O0 E Ea ga F1 F2 A1 q0 q1 w0 w1) ?_
      rintro _ _ _ _ ⟨v, L, e, ⟨r, kr, b1, b2, b3, b4, b5, b6, b7, b8, b9⟩, f⟩
      exact ⟨v, L, e, ⟨r, kr, (1 : Int32), (4 : Int32), [(.int ((v0 >>> ((0 : Int32) &&& 31)).toInt8.toInt32)), (.int ((v0 >>> ((8 : Int32) &&& 31)).toInt8.toInt32)), (.int ((v1 >>> ((0 : Int32) &&& 31)).toInt8.toInt32)), (.int ((v1 >>> ((8 : Int32) &&& 31)).toInt8.toInt32))], b1, b2, b3, b4, b5, b6, b7, b8, b9, by decide⟩, f⟩
    · skip
      refine MetFree.imp (rmS1_2_2 l Z a0 hw ws wcs hS a b kb v0 v1 h0 n0 O0 E Ea ga F1 F2 A1 q0 q1) ?_
      rintro _ _ _ _ ⟨v, L, e, ⟨r, kr, b1, b2, b3, b4, b5, b6, b7, b8, b9⟩, f⟩
      exact ⟨v, L, e, ⟨r, kr, (0 : Int32), (2 : Int32), [(.int (v0.toInt8.toInt32)), (.int (v1.toInt8.toInt32))], b1, b2, b3, b4, b5, b6, b7, b8, b9, by decide⟩, f⟩
theorem own_d_jdk_42_149_8 : decode jdk_42_method_149_code 8 = .ok (.aload_n 0, 1) := by decide +kernel
theorem own_d_jdk_42_149_9 : decode jdk_42_method_149_code 9 = .ok (.ldc 7, 2) := by decide +kernel
theorem own_lm_206 : (∀ c ∈ ("" : String).toList, c.toNat < 256) ∧ ("" : String).toList.map (fun c => Value.int (Jvm.Lit.byteI c.toNat.toUInt16)) = [] := ⟨by decide, by decide⟩
theorem own_d_jdk_42_149_11 : decode jdk_42_method_149_code 11 = .ok (.getfield 9, 3) := by decide +kernel
theorem own_d_jdk_42_149_14 : decode jdk_42_method_149_code 14 = .ok (.putfield 9, 3) := by decide +kernel
theorem own_d_jdk_42_149_17 : decode jdk_42_method_149_code 17 = .ok (.aload_n 0, 1) := by decide +kernel
theorem own_d_jdk_42_149_18 : decode jdk_42_method_149_code 18 = .ok (.ldc 7, 2) := by decide +kernel
theorem own_d_jdk_42_149_20 : decode jdk_42_method_149_code 20 = .ok (.getfield 15, 3) := by decide +kernel
theorem own_d_jdk_42_149_23 : decode jdk_42_method_149_code 23 = .ok (.putfield 15, 3) := by decide +kernel
theorem own_d_jdk_42_149_26 : decode jdk_42_method_149_code 26 = .ok (.return_, 1) := by decide +kernel
theorem own_ef_rmS4_0 (m : MethodId) (a : Addr) (b : Addr)  : entryFrame m #[(.ref a), (.ref b), (.int (0 : Int32)), (.int (0 : Int32)), .null] 6 = mkF m 0 #[.val (.ref a), .val (.ref b), .val (.int (0 : Int32)), .val (.int (0 : Int32)), .val .null, .unset] [] := by first | (simp [entryFrame, mkF, argsToLocals, Value.category, maxLocals]; done) | rfl
def QrmS4_0 (Z : State) (wcs : Int32) (a : Addr) (b : Addr) (kb : ClassId) (h0 : Heap) (n0 : Nat) (v : Option Value) (h : Heap) (L : List Loc) : Prop := ∃ r : Addr, ∃ kr : ClassId, v = none ∧ Fr n0 L ∧ Keep h0 h [a] ∧ Exa Z h a "java/lang/String" ∧ Fld Z h a "java/lang/String" "value" "[B" (.ref r) ∧ Fld Z h a "java/lang/String" "coder" "B" (.int (0 : Int32)) ∧ Arv Z h r kr .byte (0 : Int32) [] (.int (0 : Int32))
set_option maxRecDepth 65536 in
set_option maxHeartbeats 40000000 in
theorem rmS4_0 (l : Launch) (Z : State) (a0 : Array Value) (hw : own_H a0 Z) (ws : List Jvm.Cond) (wcs : Int32) (hS : own_S Z wcs) (a : Addr) (b : Addr) (kb : ClassId) (h0 : Heap) (n0 : Nat) (O0 : Old Z n0 h0) (E : Exa Z h0 a "java/lang/String") (Ea : Exa Z h0 b "[C") (ga : n0 ≤ a) (F1 : Fld Z h0 a "java/lang/String" "value" "[B" .null) (F2 : Fld Z h0 a "java/lang/String" "coder" "B" (.int (0 : Int32))) (A1 : Arv Z h0 b kb .char (0 : Int32) [] (.int (0 : Int32))) :
    own_MetH own_EL [a] l own_y_172 jdk_42_method_149_code 6 none ws ({ frames := 1, cells := 4, slots := 8, locals := 12 } : Room) Z h0 #[(.ref a), (.ref b), (.int (0 : Int32)), (.int (0 : Int32)), .null] (QrmS4_0 Z wcs a b kb h0 n0) := by
  refine own_bodyH (plainFor_of_name own_pn_173) ?_
  intro p e s m below meth c s₁ hx hby hml hown hnm hret hlk hZ e0 X0 hSi0 hs0 hC0 hsf0
  have hZ_0 := hZ
  have R0 : CHr Z own_EL s.vm h0 s.vm h0 := CHr.refl hC0
  have N0 := Fr.nil n0
  refine own_st (fun u_ k_ => castTop (own_ef_rmS4_0 m a b) k_) ?_
  show own_Go p e below _ (s₁.setTop (mkF m 0 #[.val (.ref a), .val (.ref b), .val (.int (0 : Int32)), .val (.int (0 : Int32)), .val .null, .unset] []))
  refine own_st (fun u_ k_ => XS.aloadN X0.here hx rfl (hb hby own_d_jdk_42_149_0) rfl rfl k_) ?_
  show own_Go p e below _ (s₁.setTop (mkF m 1 #[.val (.ref a), .val (.ref b), .val (.int (0 : Int32)), .val (.int (0 : Int32)), .val .null, .unset] [(.ref a)]))
  obtain ⟨T499, X499, e499, st499⟩ := initO X0 hx hZ hown (own_w hw 12 rfl) (own_w hw 13 rfl) (own_w hw 14 rfl) e0 (g := (mkF m 1 #[.val (.ref a), .val (.ref b), .val (.int (0 : Int32)), .val (.int (0 : Int32)), .val .null, .unset] [(.ref a)])) rfl (by rw [hml]; rfl) rfl (hb hby own_d_jdk_42_149_1) (by decide) (W := 0) (by show 2 * 0 + _ ≤ _; exact Nat.le_of_eq rfl) (by decide)
  refine own_st (fun u_ k_ => st499 u_ k_) ?_
  show own_Go p e below _ (T499.setTop (mkF m 4 #[.val (.ref a), .val (.ref b), .val (.int (0 : Int32)), .val (.int (0 : Int32)), .val .null, .unset] []))
  refine own_st (fun u_ k_ => XS.iloadN X499.here hx rfl (hb hby own_d_jdk_42_149_4) rfl k_) ?_
  show own_Go p e below _ (T499.setTop (mkF m 5 #[.val (.ref a), .val (.ref b), .val (.int (0 : Int32)), .val (.int (0 : Int32)), .val .null, .unset] [(.int (0 : Int32))]))
  refine own_st (fun u_ k_ => XS.ifNo X499.here hx rfl (hb hby own_d_jdk_42_149_5) rfl (XT.i0_ne_f (by decide)) k_) ?_
  show own_Go p e below _ (T499.setTop (mkF m 8 #[.val (.ref a), .val (.ref b), .val (.int (0 : Int32)), .val (.int (0 : Int32)), .val .null, .unset] []))
  refine own_st (fun u_ k_ => XS.aloadN X499.here hx rfl (hb hby own_d_jdk_42_149_8) rfl rfl k_) ?_
  show own_Go p e below _ (T499.setTop (mkF m 9 #[.val (.ref a), .val (.ref b), .val (.int (0 : Int32)), .val (.int (0 : Int32)), .val .null, .unset] [(.ref a)]))
  obtain ⟨a500, T500, h500, j500, b500, k500, X500, e500, E500, Si500, Sk500, hZ500, hown500, Ea500, Fc500, Fv500, Av500, la500, lb500, hr500, Li500, ln500, st500⟩ := ldcCH X499 hx hZ hown (own_w hw 78 rfl) (own_strW hw) e499 hSi0 (Nat.zero_le _) (own_hEL hw) (List.mem_of_getElem? (i := 0) rfl) R0.1 (vs := []) (z := 0) own_lm_206 (by decide) rfl (g := (mkF m 9 #[.val (.ref a), .val (.ref b), .val (.int (0 : Int32)), .val (.int (0 : Int32)), .val .null, .unset] [(.ref a)])) rfl (hb hby own_d_jdk_42_149_9) (n := 0) (by decide) (by decide) (by decide) (by decide)
  refine own_st (fun u_ k_ => st500 u_ k_) ?_
  show own_Go p e below _ (T500.setTop (mkF m 11 #[.val (.ref a), .val (.ref b), .val (.int (0 : Int32)), .val (.int (0 : Int32)), .val .null, .unset] [(.ref a500), (.ref a)]))
  obtain ⟨T501, X501, e501, st501⟩ := getF X500 hx hZ500 hown500 (host := "") (Or.inl (own_w hw 29 rfl)) Via.refl e500 Fv500 (g := (mkF m 11 #[.val (.ref a), .val (.ref b), .val (.int (0 : Int32)), .val (.int (0 : Int32)), .val .null, .unset] [(.ref a500), (.ref a)])) rfl rfl (hb hby own_d_jdk_42_149_11)
  refine own_st (fun u_ k_ => st501 u_ k_) ?_
  show own_Go p e below _ (T501.setTop (mkF m 14 #[.val (.ref a), .val (.ref b), .val (.int (0 : Int32)), .val (.int (0 : Int32)), .val .null, .unset] [(.ref b500), (.ref a)]))
  have F502 := (Exa.ext E500 E)
  have F503 := (Fld.ext E500 F1)
  obtain ⟨T504, h504, X504, e504, W504, st504⟩ := putF X501 hx hZ500 hown500 (host := "") (Or.inl (own_w hw 29 rfl)) Via.refl e501 F503 F502 (Or.inr ⟨(own_w hw 30 rfl), rfl, hnm⟩) (own_w hw 3 rfl) (ty := (.array .byte)) own_lm_167 rfl rfl (g := (mkF m 14 #[.val (.ref a), .val (.ref b), .val (.int (0 : Int32)), .val (.int (0 : Int32)), .val .null, .unset] [(.ref b500), (.ref a)])) rfl rfl (hb hby own_d_jdk_42_149_14)
  have N504 := Fr.snoc X504 N0 ga
  have F505 : Fld Z h504 a "java/lang/String" "value" "[B" (.ref b500) := Fld.same W504 F503
  refine own_st (fun u_ k_ => st504 u_ k_) ?_
  show own_Go p e below _ (T504.setTop (mkF m 17 #[.val (.ref a), .val (.ref b), .val (.int (0 : Int32)), .val (.int (0 : Int32)), .val .null, .unset] []))
  refine own_st (fun u_ k_ => XS.aloadN X504.here hx rfl (hb hby own_d_jdk_42_149_17) rfl rfl k_) ?_
  show own_Go p e below _ (T504.setTop (mkF m 18 #[.val (.ref a), .val (.ref b), .val (.int (0 : Int32)), .val (.int (0 : Int32)), .val .null, .unset] [(.ref a)]))
  have R507 : CHr Z own_EL s.vm h0 T500.vm h500 := R0.trans hr500
  have sf_509 : Safe Z own_EL s.vm h0 a := hsf0 _ (List.mem_of_getElem? (i := 0) rfl)
  have sf_510 : Safe Z own_EL T500.vm h500 a := hr500.safe E.lt sf_509
  have R508 : CHr Z own_EL s.vm h0 T500.vm h504 := R507.trans (CHr.wr W504 sf_510 R507.1)
  obtain ⟨a506, T506, h506, j506, b506, k506, X506, e506, E506, Si506, Sk506, hZ506, hown506, Ea506, Fc506, Fv506, Av506, la506, lb506, hr506, Li506, ln506, st506⟩ := ldcCH X504 hx hZ500 hown500 (own_w hw 78 rfl) (own_strW hw) e504 Si500 (Nat.le_trans Sk500 (Nat.le_of_eq W504.size.symm)) (own_hEL hw) (List.mem_of_getElem? (i := 0) rfl) R508.1 (vs := []) (z := 0) own_lm_206 (by decide) rfl (g := (mkF m 18 #[.val (.ref a), .val (.ref b), .val (.int (0 : Int32)), .val (.int (0 : Int32)), .val .null, .unset] [(.ref a)])) rfl (hb hby own_d_jdk_42_149_18) (n := 0) (by decide) (by decide) (by decide) (by decide)
  refine own_st (fun u_ k_ => st506 u_ k_) ?_
  show own_Go p e below _ (T506.setTop (mkF m 20 #[.val (.ref a), .val (.ref b), .val (.int (0 : Int32)), .val (.int (0 : Int32)), .val .null, .unset] [(.ref a506), (.ref a)]))
  obtain ⟨T511, X511, e511, st511⟩ := getF X506 hx hZ506 hown506 (host := "") (Or.inl (own_w hw 27 rfl)) Via.refl e506 Fc506 (g := (mkF m 20 #[.val (.ref a), .val (.ref b), .val (.int (0 : Int32)), .val (.int (0 : Int32)), .val .null, .unset] [(.ref a506), (.ref a)])) rfl rfl (hb hby own_d_jdk_42_149_20)
  refine own_st (fun u_ k_ => st511 u_ k_) ?_
  show own_Go p e below _ (T511.setTop (mkF m 23 #[.val (.ref a), .val (.ref b), .val (.int (0 : Int32)), .val (.int (0 : Int32)), .val .null, .unset] [(.int (0 : Int32)), (.ref a)]))
  have F512 := (Exa.ext E506 (Exa.wr W504 F502))
  have F513 := (Fld.ext E506 (Fld.other W504 (Fld.ext E500 F2) (Or.inr (own_sn_171 hw))))
  obtain ⟨T514, h514, X514, e514, W514, st514⟩ := putF X511 hx hZ506 hown506 (host := "") (Or.inl (own_w hw 27 rfl)) Via.refl e511 F513 F512 (Or.inr ⟨(own_w hw 28 rfl), rfl, hnm⟩) (own_w hw 3 rfl) (ty := .byte) own_lm_162 rfl rfl (g := (mkF m 23 #[.val (.ref a), .val (.ref b), .val (.int (0 : Int32)), .val (.int (0 : Int32)), .val .null, .unset] [(.int (0 : Int32)), (.ref a)])) rfl rfl (hb hby own_d_jdk_42_149_23)
  have N514 := Fr.snoc X514 N504 ga
  have F515 : Fld Z h514 a "java/lang/String" "coder" "B" (.int (0 : Int32)) := Fld.same W514 F513
  refine own_st (fun u_ k_ => st514 u_ k_) ?_
  show own_Go p e below _ (T514.setTop (mkF m 26 #[.val (.ref a), .val (.ref b), .val (.int (0 : Int32)), .val (.int (0 : Int32)), .val .null, .unset] []))
  have K516 : Keep h0 h500 [a] := (Keep.refl h0 [a]).ext E500
  have K517 : Keep h0 h504 [a] := K516.wr W504 (Or.inl (List.mem_of_getElem? (i := 0) rfl))
  have K518 : Keep h0 h506 [a] := K517.ext E506
  have K519 : Keep h0 h514 [a] := K518.wr W514 (Or.inl (List.mem_of_getElem? (i := 0) rfl))
  have F520 := (Exa.wr W514 F512)
  have F521 := (Fld.other W514 (Fld.ext E506 F505) (Or.inr (own_sn_168 hw)))
  have ne522 : b500 ≠ a := (Ne.symm (ln500 a sf_510).2)
  have F523 := (((Av500.other W504 ne522).ext E506).other W514 ne522)
  have R524 : CHr Z own_EL s.vm h0 T506.vm h506 := R508.trans hr506
  have sf_526 : Safe Z own_EL T500.vm h504 a := Safe.wr W504 sf_510 R507.1 sf_510
  have sf_527 : Safe Z own_EL T506.vm h506 a := hr506.safe F505.lt sf_526
  have R525 : CHr Z own_EL s.vm h0 T506.vm h514 := R524.trans (CHr.wr W514 sf_527 R524.1)
  exact own_retVH X514 Si506 (Nat.le_trans Sk506 (Nat.le_of_eq W514.size.symm)) e514 hZ506 (own_hEL hw) hs0 R525 hx hlk hret (hb hby own_d_jdk_42_149_26) (by decide) (by decide) (show QrmS4_0 Z wcs a b kb h0 n0 none T514.heap _ from (by rw [e514]; exact ⟨b500, k500, rfl, N514, K519, F520, F521, F515, F523⟩))
theorem own_ef_rmS1_0 (m : MethodId) (a : Addr) (b : Addr)  : entryFrame m #[(.ref a), (.ref b)] 2 = mkF m 0 #[.val (.ref a), .val (.ref b)] [] := by first | (simp [entryFrame, mkF, argsToLocals, Value.category, maxLocals]; done) | rfl
def QrmS1_0 (Z : State) (wcs : Int32) (a : Addr) (b : Addr) (kb : ClassId) (h0 : Heap) (n0 : Nat) (v : Option Value) (h : Heap) (L : List Loc) : Prop := ∃ r : Addr, ∃ kr : ClassId, v = none ∧ Fr n0 L ∧ Keep h0 h [a] ∧ Exa Z h a "java/lang/String" ∧ Fld Z h a "java/lang/String" "value" "[B" (.ref r) ∧ Fld Z h a "java/lang/String" "coder" "B" (.int (0 : Int32)) ∧ Arv Z h r kr .byte (0 : Int32) [] (.int (0 : Int32))
set_option maxRecDepth 65536 in
set_option maxHeartbeats 40000000 in
theorem rmS1_0 (l : Launch) (Z : State) (a0 : Array Value) (hw : own_H a0 Z) (ws : List Jvm.Cond) (wcs : Int32) (hS : own_S Z wcs) (a : Addr) (b : Addr) (kb : ClassId) (h0 : Heap) (n0 : Nat) (O0 : Old Z n0 h0) (E : Exa Z h0 a "java/lang/String") (Ea : Exa Z h0 b "[C") (ga : n0 ≤ a) (F1 : Fld Z h0 a "java/lang/String" "value" "[B" .null) (F2 : Fld Z h0 a "java/lang/String" "coder" "B" (.int (0 : Int32))) (A1 : Arv Z h0 b kb .char (0 : Int32) [] (.int (0 : Int32))) :
    own_MetH own_EL [a] l own_y_198 jdk_42_method_3_code 2 none ws ({ frames := 2, cells := 4, slots := 8, locals := 29 } : Room) Z h0 #[(.ref a), (.ref b)] (QrmS1_0 Z wcs a b kb h0 n0) := by
  refine own_bodyH (plainFor_of_name own_pn_173) ?_
  intro p e s m below meth c s₁ hx hby hml hown hnm hret hlk hZ e0 X0 hSi0 hs0 hC0 hsf0
  have hZ_0 := hZ
  have R0 : CHr Z own_EL s.vm h0 s.vm h0 := CHr.refl hC0
  have N0 := Fr.nil n0
  refine own_st (fun u_ k_ => castTop (own_ef_rmS1_0 m a b) k_) ?_
  show own_Go p e below _ (s₁.setTop (mkF m 0 #[.val (.ref a), .val (.ref b)] []))
  refine own_st (fun u_ k_ => XS.aloadN X0.here hx rfl (hb hby own_d_jdk_42_3_0) rfl rfl k_) ?_
  show own_Go p e below _ (s₁.setTop (mkF m 1 #[.val (.ref a), .val (.ref b)] [(.ref a)]))
  refine own_st (fun u_ k_ => XS.aloadN X0.here hx rfl (hb hby own_d_jdk_42_3_1) rfl rfl k_) ?_
  show own_Go p e below _ (s₁.setTop (mkF m 2 #[.val (.ref a), .val (.ref b)] [(.ref b), (.ref a)]))
  refine own_st (fun u_ k_ => XS.iconst X0.here hx rfl (hb hby own_d_jdk_42_3_2) k_) ?_
  show own_Go p e below _ (s₁.setTop (mkF m 3 #[.val (.ref a), .val (.ref b)] [(.int (0 : Int32)), (.ref b), (.ref a)]))
  refine own_st (fun u_ k_ => XS.aloadN X0.here hx rfl (hb hby own_d_jdk_42_3_3) rfl rfl k_) ?_
  show own_Go p e below _ (s₁.setTop (mkF m 4 #[.val (.ref a), .val (.ref b)] [(.ref b), (.int (0 : Int32)), (.ref b), (.ref a)]))
  obtain ⟨cl528, Ar528, -, S528, N528, -, -⟩ := id A1
  refine own_st (X0.arraylength hx (by rw [e0]; exact Ar528.1) (State.isArrayOf_alike hZ.alike Ar528.2.1) (g := (mkF m 4 #[.val (.ref a), .val (.ref b)] [(.ref b), (.int (0 : Int32)), (.ref b), (.ref a)])) rfl rfl (hb hby own_d_jdk_42_3_4)) ?_
  rw [len_of S528 N528]
  show own_Go p e below _ (s₁.setTop (mkF m 5 #[.val (.ref a), .val (.ref b)] [(.int (0 : Int32)), (.int (0 : Int32)), (.ref b), (.ref a)]))
  refine own_st (fun u_ k_ => XS.aconstNull X0.here hx rfl (hb hby own_d_jdk_42_3_5) k_) ?_
  show own_Go p e below _ (s₁.setTop (mkF m 6 #[.val (.ref a), .val (.ref b)] [.null, (.int (0 : Int32)), (.int (0 : Int32)), (.ref b), (.ref a)]))
  have sf_530 : Safe Z own_EL s.vm h0 a := hsf0 _ (List.mem_of_getElem? (i := 0) rfl)
  obtain ⟨T529, v529, L529, X529, Si529, hZ529, hown529, hQ529, hr529, st529⟩ := own_callNH X0 hx hZ hSi0 (Nat.zero_le _) (own_hEL hw) R0.1 (own_sfS E.lt sf_530 own_sf0) (y := own_y_172) rfl hown (own_w hw 8 rfl) (own_w hw 9 rfl) (own_w hw 4 rfl) (own_w hw 11 rfl) own_lm_181 (rmS4_0 l Z a0 hw [] wcs hS a b kb h0 n0 O0 E Ea ga F1 F2 A1) e0 own_pd_182 (a := a) (argsL := [(.ref b), (.int (0 : Int32)), (.int (0 : Int32)), .null]) (rest := []) rfl rfl (g := (mkF m 6 #[.val (.ref a), .val (.ref b)] [.null, (.int (0 : Int32)), (.int (0 : Int32)), (.ref b), (.ref a)])) rfl (by rw [hml]; rfl) rfl (hb hby own_d_jdk_42_3_6) (W := 0) rfl (by decide) (by decide) (by decide) (by decide)
  obtain ⟨r_531, kr_532, rfl, M529, K529, F533, F534, F535, F536⟩ := hQ529
  have N529 := Fr.app N0 M529
  refine own_st (fun u_ k_ => st529 u_ k_) ?_
  show own_Go p e below _ (T529.setTop (mkF m 9 #[.val (.ref a), .val (.ref b)] []))
  have K537 : Keep h0 T529.heap [a] := (Keep.refl h0 [a]).trans K529 (allS (Or.inl (List.mem_of_getElem? (i := 0) rfl)) all0)
  have R538 : CHr Z own_EL s.vm h0 T529.vm T529.heap := R0.trans hr529
  exact own_retVH X529 Si529 (Nat.le_refl _) rfl hZ529 (own_hEL hw) hs0 R538 hx hlk hret (hb hby own_d_jdk_42_3_9) (by decide) (by decide) (show QrmS1_0 Z wcs a b kb h0 n0 none T529.heap _ from (by exact ⟨r_531, kr_532, rfl, N529, K537, F533, F534, F535, F536⟩))
theorem own_d_jdk_30_1_0 : decode jdk_30_method_1_code 0 = .ok (.aload_n 0, 1) := by decide +kernel
theorem own_d_jdk_30_1_1 : decode jdk_30_method_1_code 1 = .ok (.invokespecial 1, 3) := by decide +kernel
theorem own_d_jdk_30_1_4 : decode jdk_30_method_1_code 4 = .ok (.return_, 1) := by decide +kernel
abbrev own_y_217 : MethodName := ⟨"java/lang/Record", "<init>", "()V"⟩
theorem own_pn_218 : plainName "java/lang/Record" = true := by first | (simp [plainName, overriddenIn]; done) | decide +kernel
theorem own_ef_rmRec (m : MethodId) (a : Addr)  : entryFrame m #[(.ref a)] 1 = mkF m 0 #[.val (.ref a)] [] := by first | (simp [entryFrame, mkF, argsToLocals, Value.category, maxLocals]; done) | rfl
def QrmRec (Z : State) (wcs : Int32) (a : Addr) (h0 : Heap) (n0 : Nat) (v : Option Value) (h : Heap) (L : List Loc) : Prop := v = none ∧ Fr n0 L ∧ h = h0
set_option maxRecDepth 65536 in
set_option maxHeartbeats 40000000 in
theorem rmRec (l : Launch) (Z : State) (a0 : Array Value) (hw : own_H a0 Z) (ws : List Jvm.Cond) (wcs : Int32) (hS : own_S Z wcs) (a : Addr) (h0 : Heap) (n0 : Nat) (O0 : Old Z n0 h0)  :
    own_Met l own_y_217 jdk_30_method_1_code 1 none ws ({ frames := 1, cells := 0, slots := 0, locals := 12 } : Room) Z h0 #[(.ref a)] (QrmRec Z wcs a h0 n0) := by
  refine own_body (plainFor_of_name own_pn_218) ?_
  intro p e s m below meth c s₁ hx hby hml hown hnm hret hlk hZ e0 X0
  have N0 := Fr.nil n0
  refine own_st (fun u_ k_ => castTop (own_ef_rmRec m a) k_) ?_
  show own_Go p e below _ (s₁.setTop (mkF m 0 #[.val (.ref a)] []))
  refine own_st (fun u_ k_ => XS.aloadN X0.here hx rfl (hb hby own_d_jdk_30_1_0) rfl rfl k_) ?_
  show own_Go p e below _ (s₁.setTop (mkF m 1 #[.val (.ref a)] [(.ref a)]))
  obtain ⟨T539, X539, e539, st539⟩ := initO X0 hx hZ hown (own_w hw 42 rfl) (own_w hw 13 rfl) (own_w hw 14 rfl) e0 (g := (mkF m 1 #[.val (.ref a)] [(.ref a)])) rfl (by rw [hml]; rfl) rfl (hb hby own_d_jdk_30_1_1) (by decide) (W := 0) (by show 2 * 0 + _ ≤ _; exact Nat.le_of_eq rfl) (by decide)
  refine own_st (fun u_ k_ => st539 u_ k_) ?_
  show own_Go p e below _ (T539.setTop (mkF m 4 #[.val (.ref a)] []))
  exact own_retV X539 hx hlk hret (hb hby own_d_jdk_30_1_4) (by decide) (by decide) (show QrmRec Z wcs a h0 n0 none T539.heap _ from (by rw [e539]; exact ⟨rfl, N0, rfl⟩))
theorem own_d_prog_7_1_0 : decode prog_7_method_1_code 0 = .ok (.aload_n 0, 1) := by decide +kernel
theorem own_d_prog_7_1_1 : decode prog_7_method_1_code 1 = .ok (.invokespecial 1, 3) := by decide +kernel
theorem own_lm_221 : ("java/lang/Record" : String) ≠ "java/lang/invoke/MethodHandle" ∧ ("java/lang/Record" : String) ≠ "java/lang/invoke/VarHandle" := by decide +kernel
theorem own_pd_222 : parseMethodDescriptor "()V" = some ⟨[], none⟩ := by decide +kernel
theorem own_d_prog_7_1_4 : decode prog_7_method_1_code 4 = .ok (.aload_n 0, 1) := by decide +kernel
theorem own_d_prog_7_1_5 : decode prog_7_method_1_code 5 = .ok (.iload_n 1, 1) := by decide +kernel
theorem own_d_prog_7_1_6 : decode prog_7_method_1_code 6 = .ok (.putfield 7, 3) := by decide +kernel
theorem own_lm_226 : parseFieldDescriptor "I" = some .int := by decide +kernel
theorem own_d_prog_7_1_9 : decode prog_7_method_1_code 9 = .ok (.aload_n 0, 1) := by decide +kernel
theorem own_d_prog_7_1_10 : decode prog_7_method_1_code 10 = .ok (.aload_n 2, 1) := by decide +kernel
theorem own_d_prog_7_1_11 : decode prog_7_method_1_code 11 = .ok (.putfield 13, 3) := by decide +kernel
theorem own_lm_230 : ("text" : String) ≠ "number" := by decide +kernel
theorem own_lm_231 : parseFieldDescriptor "Ljava/lang/String;" = some (.object "java/lang/String") := by decide +kernel
def own_sn_232 {Z : State} {a0 : Array Value} (hw : own_H a0 Z) := slot_ne (Or.inr (own_w hw 46 rfl)) (Or.inr (own_w hw 44 rfl)) own_lm_230 (t := (.object "java/lang/String")) (t' := .int) own_lm_231 own_lm_226
theorem own_d_prog_7_1_14 : decode prog_7_method_1_code 14 = .ok (.aload_n 0, 1) := by decide +kernel
theorem own_d_prog_7_1_15 : decode prog_7_method_1_code 15 = .ok (.iload_n 3, 1) := by decide +kernel
theorem own_d_prog_7_1_16 : decode prog_7_method_1_code 16 = .ok (.putfield 17, 3) := by decide +kernel
theorem own_lm_236 : ("terminated" : String) ≠ "number" := by decide +kernel
theorem own_lm_237 : parseFieldDescriptor "Z" = some .boolean := by decide +kernel
def own_sn_238 {Z : State} {a0 : Array Value} (hw : own_H a0 Z) := slot_ne (Or.inr (own_w hw 48 rfl)) (Or.inr (own_w hw 44 rfl)) own_lm_236 (t := .boolean) (t' := .int) own_lm_237 own_lm_226
theorem own_lm_239 : ("terminated" : String) ≠ "text" := by decide +kernel
def own_sn_240 {Z : State} {a0 : Array Value} (hw : own_H a0 Z) := slot_ne (Or.inr (own_w hw 48 rfl)) (Or.inr (own_w hw 46 rfl)) own_lm_239 (t := .boolean) (t' := (.object "java/lang/String")) own_lm_237 own_lm_231
theorem own_d_prog_7_1_19 : decode prog_7_method_1_code 19 = .ok (.return_, 1) := by decide +kernel
theorem own_lm_242 : ("text" : String) ≠ "terminated" := by decide +kernel
def own_sn_243 {Z : State} {a0 : Array Value} (hw : own_H a0 Z) := slot_ne (Or.inr (own_w hw 46 rfl)) (Or.inr (own_w hw 48 rfl)) own_lm_242 (t := (.object "java/lang/String")) (t' := .boolean) own_lm_231 own_lm_237
abbrev own_y_244 : MethodName := ⟨"com/example/spulenwerk/spulenwerk/jsonlines/LineReader$Line", "<init>", "(ILjava/lang/String;Z)V"⟩
theorem own_pn_245 : plainName "com/example/spulenwerk/spulenwerk/jsonlines/LineReader$Line" = true := by first | (simp [plainName, overriddenIn]; done) | decide +kernel
theorem own_ef_rmL0 (m : MethodId) (a : Addr) (nb : Int32) (tx : Value) (ht : tx.isRef = true) : entryFrame m #[(.ref a), (.int nb), tx, (.int (0 : Int32))] 4 = mkF m 0 #[.val (.ref a), .val (.int nb), .val tx, .val (.int (0 : Int32))] [] := by rcases ref_cases ht with rfl | ⟨_, rfl⟩ <;> first | (simp [entryFrame, mkF, argsToLocals, Value.category, maxLocals]; done) | rfl
def QrmL0 (Z : State) (wcs : Int32) (a : Addr) (nb : Int32) (tx : Value) (h0 : Heap) (n0 : Nat) (v : Option Value) (h : Heap) (L : List Loc) : Prop := v = none ∧ Fr n0 L ∧ Keep h0 h [a] ∧ Exa Z h a "com/example/spulenwerk/spulenwerk/jsonlines/LineReader$Line" ∧ Fld Z h a "com/example/spulenwerk/spulenwerk/jsonlines/LineReader$Line" "text" "Ljava/lang/String;" tx
set_option maxRecDepth 65536 in
set_option maxHeartbeats 40000000 in
theorem rmL0 (l : Launch) (Z : State) (a0 : Array Value) (hw : own_H a0 Z) (ws : List Jvm.Cond) (wcs : Int32) (hS : own_S Z wcs) (a : Addr) (nb : Int32) (tx : Value) (h0 : Heap) (n0 : Nat) (O0 : Old Z n0 h0) (E : Exa Z h0 a "com/example/spulenwerk/spulenwerk/jsonlines/LineReader$Line") (ga : n0 ≤ a) (ht : tx.isRef = true) (F1 : Fld Z h0 a "com/example/spulenwerk/spulenwerk/jsonlines/LineReader$Line" "number" "I" (.int (0 : Int32))) (F2 : Fld Z h0 a "com/example/spulenwerk/spulenwerk/jsonlines/LineReader$Line" "text" "Ljava/lang/String;" .null) (F3 : Fld Z h0 a "com/example/spulenwerk/spulenwerk/jsonlines/LineReader$Line" "terminated" "Z" (.int (0 : Int32))) :
    own_Met l own_y_244 prog_7_method_1_code 4 none ws ({ frames := 2, cells := 0, slots := 0, locals := 24 } : Room) Z h0 #[(.ref a), (.int nb), tx, (.int (0 : Int32))] (QrmL0 Z wcs a nb tx h0 n0) := by
  refine own_body (plainFor_of_name own_pn_245) ?_
  intro p e s m below meth c s₁ hx hby hml hown hnm hret hlk hZ e0 X0
  have N0 := Fr.nil n0
  refine own_st (fun u_ k_ => castTop (own_ef_rmL0 m a nb tx ht) k_) ?_
  show own_Go p e below _ (s₁.setTop (mkF m 0 #[.val (.ref a), .val (.int nb), .val tx, .val (.int (0 : Int32))] []))
  refine own_st (fun u_ k_ => XS.aloadN X0.here hx rfl (hb hby own_d_prog_7_1_0) rfl rfl k_) ?_
  show own_Go p e below _ (s₁.setTop (mkF m 1 #[.val (.ref a), .val (.int nb), .val tx, .val (.int (0 : Int32))] [(.ref a)]))
  obtain ⟨T540, v540, L540, X540, hQ540, st540⟩ := own_callN X0 hx hZ (y := own_y_217) rfl hown (own_w hw 37 rfl) (own_w hw 38 rfl) (own_w hw 40 rfl) (own_w hw 41 rfl) own_lm_221 (rmRec l Z a0 hw [] wcs hS a h0 n0 O0 ) e0 own_pd_222 (a := a) (argsL := []) (rest := []) rfl rfl (g := (mkF m 1 #[.val (.ref a), .val (.int nb), .val tx, .val (.int (0 : Int32))] [(.ref a)])) rfl (by rw [hml]; rfl) rfl (hb hby own_d_prog_7_1_1) (W := 0) rfl (by decide) (by decide) (by decide) (by decide)
  obtain ⟨rfl, M540, e540⟩ := hQ540
  have N540 := Fr.app N0 M540
  refine own_st (fun u_ k_ => st540 u_ k_) ?_
  show own_Go p e below _ (T540.setTop (mkF m 4 #[.val (.ref a), .val (.int nb), .val tx, .val (.int (0 : Int32))] []))
  refine own_st (fun u_ k_ => XS.aloadN X540.here hx rfl (hb hby own_d_prog_7_1_4) rfl rfl k_) ?_
  show own_Go p e below _ (T540.setTop (mkF m 5 #[.val (.ref a), .val (.int nb), .val tx, .val (.int (0 : Int32))] [(.ref a)]))
  refine own_st (fun u_ k_ => XS.iloadN X540.here hx rfl (hb hby own_d_prog_7_1_5) rfl k_) ?_
  show own_Go p e below _ (T540.setTop (mkF m 6 #[.val (.ref a), .val (.int nb), .val tx, .val (.int (0 : Int32))] [(.int nb), (.ref a)]))
  obtain ⟨T541, h541, X541, e541, W541, st541⟩ := putF X540 hx hZ hown (host := "") (Or.inl (own_w hw 43 rfl)) Via.refl e540 F1 E (Or.inr ⟨(own_w hw 44 rfl), rfl, hnm⟩) (own_w hw 32 rfl) (ty := .int) own_lm_226 rfl rfl (g := (mkF m 6 #[.val (.ref a), .val (.int nb), .val tx, .val (.int (0 : Int32))] [(.int nb), (.ref a)])) rfl rfl (hb hby own_d_prog_7_1_6)
  have N541 := Fr.snoc X541 N540 ga
  have F542 : Fld Z h541 a "com/example/spulenwerk/spulenwerk/jsonlines/LineReader$Line" "number" "I" (.int nb) := Fld.same W541 F1
  refine own_st (fun u_ k_ => st541 u_ k_) ?_
  show own_Go p e below _ (T541.setTop (mkF m 9 #[.val (.ref a), .val (.int nb), .val tx, .val (.int (0 : Int32))] []))
  refine own_st (fun u_ k_ => XS.aloadN X541.here hx rfl (hb hby own_d_prog_7_1_9) rfl rfl k_) ?_
  show own_Go p e below _ (T541.setTop (mkF m 10 #[.val (.ref a), .val (.int nb), .val tx, .val (.int (0 : Int32))] [(.ref a)]))
  refine own_st (fun u_ k_ => XS.aloadN X541.here hx rfl (hb hby own_d_prog_7_1_10) rfl ht k_) ?_
  show own_Go p e below _ (T541.setTop (mkF m 11 #[.val (.ref a), .val (.int nb), .val tx, .val (.int (0 : Int32))] [tx, (.ref a)]))
  have F543 := (Exa.wr W541 E)
  have F544 := (Fld.other W541 F2 (Or.inr (own_sn_232 hw)))
  obtain ⟨T545, h545, X545, e545, W545, st545⟩ := putF X541 hx hZ hown (host := "") (Or.inl (own_w hw 45 rfl)) Via.refl e541 F544 F543 (Or.inr ⟨(own_w hw 46 rfl), rfl, hnm⟩) (own_w hw 32 rfl) (ty := (.object "java/lang/String")) own_lm_231 (own_narG ht) (own_fitG ht) (g := (mkF m 11 #[.val (.ref a), .val (.int nb), .val tx, .val (.int (0 : Int32))] [tx, (.ref a)])) rfl rfl (hb hby own_d_prog_7_1_11)
  have N545 := Fr.snoc X545 N541 ga
  have F546 : Fld Z h545 a "com/example/spulenwerk/spulenwerk/jsonlines/LineReader$Line" "text" "Ljava/lang/String;" tx := Fld.same W545 F544
  refine own_st (fun u_ k_ => st545 u_ k_) ?_
  show own_Go p e below _ (T545.setTop (mkF m 14 #[.val (.ref a), .val (.int nb), .val tx, .val (.int (0 : Int32))] []))
  refine own_st (fun u_ k_ => XS.aloadN X545.here hx rfl (hb hby own_d_prog_7_1_14) rfl rfl k_) ?_
  show own_Go p e below _ (T545.setTop (mkF m 15 #[.val (.ref a), .val (.int nb), .val tx, .val (.int (0 : Int32))] [(.ref a)]))
  refine own_st (fun u_ k_ => XS.iloadN X545.here hx rfl (hb hby own_d_prog_7_1_15) rfl k_) ?_
  show own_Go p e below _ (T545.setTop (mkF m 16 #[.val (.ref a), .val (.int nb), .val tx, .val (.int (0 : Int32))] [(.int (0 : Int32)), (.ref a)]))
  have F547 := (Exa.wr W545 F543)
  have F548 := (Fld.other W545 (Fld.other W541 F3 (Or.inr (own_sn_238 hw))) (Or.inr (own_sn_240 hw)))
  obtain ⟨T549, h549, X549, e549, W549, st549⟩ := putF X545 hx hZ hown (host := "") (Or.inl (own_w hw 47 rfl)) Via.refl e545 F548 F547 (Or.inr ⟨(own_w hw 48 rfl), rfl, hnm⟩) (own_w hw 32 rfl) (ty := .boolean) own_lm_237 rfl rfl (g := (mkF m 16 #[.val (.ref a), .val (.int nb), .val tx, .val (.int (0 : Int32))] [(.int (0 : Int32)), (.ref a)])) rfl rfl (hb hby own_d_prog_7_1_16)
  have N549 := Fr.snoc X549 N545 ga
  have F550 : Fld Z h549 a "com/example/spulenwerk/spulenwerk/jsonlines/LineReader$Line" "terminated" "Z" (.int (0 : Int32)) := Fld.same W549 F548
  refine own_st (fun u_ k_ => st549 u_ k_) ?_
  show own_Go p e below _ (T549.setTop (mkF m 19 #[.val (.ref a), .val (.int nb), .val tx, .val (.int (0 : Int32))] []))
  have K551 : Keep h0 h541 [a] := (Keep.refl h0 [a]).wr W541 (Or.inl (List.mem_of_getElem? (i := 0) rfl))
  have K552 : Keep h0 h545 [a] := K551.wr W545 (Or.inl (List.mem_of_getElem? (i := 0) rfl))
  have K553 : Keep h0 h549 [a] := K552.wr W549 (Or.inl (List.mem_of_getElem? (i := 0) rfl))
  have F554 := (Exa.wr W549 F547)
  have F555 := (Fld.other W549 F546 (Or.inr (own_sn_243 hw)))
  exact own_retV X549 hx hlk hret (hb hby own_d_prog_7_1_19) (by decide) (by decide) (show QrmL0 Z wcs a nb tx h0 n0 none T549.heap _ from (by rw [e549]; exact ⟨rfl, N549, K553, F554, F555⟩))
theorem own_ef_rmL1 (m : MethodId) (a : Addr) (nb : Int32) (tx : Value) (ht : tx.isRef = true) : entryFrame m #[(.ref a), (.int nb), tx, (.int (1 : Int32))] 4 = mkF m 0 #[.val (.ref a), .val (.int nb), .val tx, .val (.int (1 : Int32))] [] := by rcases ref_cases ht with rfl | ⟨_, rfl⟩ <;> first | (simp [entryFrame, mkF, argsToLocals, Value.category, maxLocals]; done) | rfl
def QrmL1 (Z : State) (wcs : Int32) (a : Addr) (nb : Int32) (tx : Value) (h0 : Heap) (n0 : Nat) (v : Option Value) (h : Heap) (L : List Loc) : Prop := v = none ∧ Fr n0 L ∧ Keep h0 h [a] ∧ Exa Z h a "com/example/spulenwerk/spulenwerk/jsonlines/LineReader$Line" ∧ Fld Z h a "com/example/spulenwerk/spulenwerk/jsonlines/LineReader$Line" "text" "Ljava/lang/String;" tx
set_option maxRecDepth 65536 in
set_option maxHeartbeats 40000000 in
theorem rmL1 (l : Launch) (Z : State) (a0 : Array Value) (hw : own_H a0 Z) (ws : List Jvm.Cond) (wcs : Int32) (hS : own_S Z wcs) (a : Addr) (nb : Int32) (tx : Value) (h0 : Heap) (n0 : Nat) (O0 : Old Z n0 h0) (E : Exa Z h0 a "com/example/spulenwerk/spulenwerk/jsonlines/LineReader$Line") (ga : n0 ≤ a) (ht : tx.isRef = true) (F1 : Fld Z h0 a "com/example/spulenwerk/spulenwerk/jsonlines/LineReader$Line" "number" "I" (.int (0 : Int32))) (F2 : Fld Z h0 a "com/example/spulenwerk/spulenwerk/jsonlines/LineReader$Line" "text" "Ljava/lang/String;" .null) (F3 : Fld Z h0 a "com/example/spulenwerk/spulenwerk/jsonlines/LineReader$Line" "terminated" "Z" (.int (0 : Int32))) :
    own_Met l own_y_244 prog_7_method_1_code 4 none ws ({ frames := 2, cells := 0, slots := 0, locals := 24 } : Room) Z h0 #[(.ref a), (.int nb), tx, (.int (1 : Int32))] (QrmL1 Z wcs a nb tx h0 n0) := by
  refine own_body (plainFor_of_name own_pn_245) ?_
  intro p e s m below meth c s₁ hx hby hml hown hnm hret hlk hZ e0 X0
  have N0 := Fr.nil n0
  refine own_st (fun u_ k_ => castTop (own_ef_rmL1 m a nb tx ht) k_) ?_
  show own_Go p e below _ (s₁.setTop (mkF m 0 #[.val (.ref a), .val (.int nb), .val tx, .val (.int (1 : Int32))] []))
  refine own_st (fun u_ k_ => XS.aloadN X0.here hx rfl (hb hby own_d_prog_7_1_0) rfl rfl k_) ?_
  show own_Go p e below _ (s₁.setTop (mkF m 1 #[.val (.ref a), .val (.int nb), .val tx, .val (.int (1 : Int32))] [(.ref a)]))
  obtain ⟨T556, v556, L556, X556, hQ556, st556⟩ := own_callN X0 hx hZ (y := own_y_217) rfl hown (own_w hw 37 rfl) (own_w hw 38 rfl) (own_w hw 40 rfl) (own_w hw 41 rfl) own_lm_221 (rmRec l Z a0 hw [] wcs hS a h0 n0 O0 ) e0 own_pd_222 (a := a) (argsL := []) (rest := []) rfl rfl (g := (mkF m 1 #[.val (.ref a), .val (.int nb), .val tx, .val (.int (1 : Int32))] [(.ref a)])) rfl (by rw [hml]; rfl) rfl (hb hby own_d_prog_7_1_1) (W := 0) rfl (by decide) (by decide) (by decide) (by decide)
  obtain ⟨rfl, M556, e556⟩ := hQ556
  have N556 := Fr.app N0 M556
  refine own_st (fun u_ k_ => st556 u_ k_) ?_
  show own_Go p e below _ (T556.setTop (mkF m 4 #[.val (.ref a), .val (.int nb), .val tx, .val (.int (1 : Int32))] []))
  refine own_st (fun u_ k_ => XS.aloadN X556.here hx rfl (hb hby own_d_prog_7_1_4) rfl rfl k_) ?_
  show own_Go p e below _ (T556.setTop (mkF m 5 #[.val (.ref a), .val (.int nb), .val tx, .val (.int (1 : Int32))] [(.ref a)]))
  refine own_st (fun u_ k_ => XS.iloadN X556.here hx rfl (hb hby own_d_prog_7_1_5) rfl k_) ?_
  show own_Go p e below _ (T556.setTop (mkF m 6 #[.val (.ref a), .val (.int nb), .val tx, .val (.int (1 : Int32))] [(.int nb), (.ref a)]))
  obtain ⟨T557, h557, X557, e557, W557, st557⟩ := putF X556 hx hZ hown (host := "") (Or.inl (own_w hw 43 rfl)) Via.refl e556 F1 E (Or.inr ⟨(own_w hw 44 rfl), rfl, hnm⟩) (own_w hw 32 rfl) (ty := .int) own_lm_226 rfl rfl (g := (mkF m 6 #[.val (.ref a), .val (.int nb), .val tx, .val (.int (1 : Int32))] [(.int nb), (.ref a)])) rfl rfl (hb hby own_d_prog_7_1_6)
  have N557 := Fr.snoc X557 N556 ga
  have F558 : Fld Z h557 a "com/example/spulenwerk/spulenwerk/jsonlines/LineReader$Line" "number" "I" (.int nb) := Fld.same W557 F1
  refine own_st (fun u_ k_ => st557 u_ k_) ?_
  show own_Go p e below _ (T557.setTop (mkF m 9 #[.val (.ref a), .val (.int nb), .val tx, .val (.int (1 : Int32))] []))
  refine own_st (fun u_ k_ => XS.aloadN X557.here hx rfl (hb hby own_d_prog_7_1_9) rfl rfl k_) ?_
  show own_Go p e below _ (T557.setTop (mkF m 10 #[.val (.ref a), .val (.int nb), .val tx, .val (.int (1 : Int32))] [(.ref a)]))
  refine own_st (fun u_ k_ => XS.aloadN X557.here hx rfl (hb hby own_d_prog_7_1_10) rfl ht k_) ?_
  show own_Go p e below _ (T557.setTop (mkF m 11 #[.val (.ref a), .val (.int nb), .val tx, .val (.int (1 : Int32))] [tx, (.ref a)]))
  have F559 := (Exa.wr W557 E)
  have F560 := (Fld.other W557 F2 (Or.inr (own_sn_232 hw)))
  obtain ⟨T561, h561, X561, e561, W561, st561⟩ := putF X557 hx hZ hown (host := "") (Or.inl (own_w hw 45 rfl)) Via.refl e557 F560 F559 (Or.inr ⟨(own_w hw 46 rfl), rfl, hnm⟩) (own_w hw 32 rfl) (ty := (.object "java/lang/String")) own_lm_231 (own_narG ht) (own_fitG ht) (g := (mkF m 11 #[.val (.ref a), .val (.int nb), .val tx, .val (.int (1 : Int32))] [tx, (.ref a)])) rfl rfl (hb hby own_d_prog_7_1_11)
  have N561 := Fr.snoc X561 N557 ga
  have F562 : Fld Z h561 a "com/example/spulenwerk/spulenwerk/jsonlines/LineReader$Line" "text" "Ljava/lang/String;" tx := Fld.same W561 F560
  refine own_st (fun u_ k_ => st561 u_ k_) ?_
  show own_Go p e below _ (T561.setTop (mkF m 14 #[.val (.ref a), .val (.int nb), .val tx, .val (.int (1 : Int32))] []))
  refine own_st (fun u_ k_ => XS.aloadN X561.here hx rfl (hb hby own_d_prog_7_1_14) rfl rfl k_) ?_
  show own_Go p e below _ (T561.setTop (mkF m 15 #[.val (.ref a), .val (.int nb), .val tx, .val (.int (1 : Int32))] [(.ref a)]))
  refine own_st (fun u_ k_ => XS.iloadN X561.here hx rfl (hb hby own_d_prog_7_1_15) rfl k_) ?_
  show own_Go p e below _ (T561.setTop (mkF m 16 #[.val (.ref a), .val (.int nb), .val tx, .val (.int (1 : Int32))] [(.int (1 : Int32)), (.ref a)]))
  have F563 := (Exa.wr W561 F559)
  have F564 := (Fld.other W561 (Fld.other W557 F3 (Or.inr (own_sn_238 hw))) (Or.inr (own_sn_240 hw)))
  obtain ⟨T565, h565, X565, e565, W565, st565⟩ := putF X561 hx hZ hown (host := "") (Or.inl (own_w hw 47 rfl)) Via.refl e561 F564 F563 (Or.inr ⟨(own_w hw 48 rfl), rfl, hnm⟩) (own_w hw 32 rfl) (ty := .boolean) own_lm_237 rfl rfl (g := (mkF m 16 #[.val (.ref a), .val (.int nb), .val tx, .val (.int (1 : Int32))] [(.int (1 : Int32)), (.ref a)])) rfl rfl (hb hby own_d_prog_7_1_16)
  have N565 := Fr.snoc X565 N561 ga
  have F566 : Fld Z h565 a "com/example/spulenwerk/spulenwerk/jsonlines/LineReader$Line" "terminated" "Z" (.int (1 : Int32)) := Fld.same W565 F564
  refine own_st (fun u_ k_ => st565 u_ k_) ?_
  show own_Go p e below _ (T565.setTop (mkF m 19 #[.val (.ref a), .val (.int nb), .val tx, .val (.int (1 : Int32))] []))
  have K567 : Keep h0 h557 [a] := (Keep.refl h0 [a]).wr W557 (Or.inl (List.mem_of_getElem? (i := 0) rfl))
  have K568 : Keep h0 h561 [a] := K567.wr W561 (Or.inl (List.mem_of_getElem? (i := 0) rfl))
  have K569 : Keep h0 h565 [a] := K568.wr W565 (Or.inl (List.mem_of_getElem? (i := 0) rfl))
  have F570 := (Exa.wr W565 F563)
  have F571 := (Fld.other W565 F562 (Or.inr (own_sn_243 hw)))
  exact own_retV X565 hx hlk hret (hb hby own_d_prog_7_1_19) (by decide) (by decide) (show QrmL1 Z wcs a nb tx h0 n0 none T565.heap _ from (by rw [e565]; exact ⟨rfl, N565, K569, F570, F571⟩))
theorem own_d_prog_7_2_0 : decode prog_7_method_2_code 0 = .ok (.aload_n 0, 1) := by decide +kernel
theorem own_d_prog_7_2_1 : decode prog_7_method_2_code 1 = .ok (.getfield 13, 3) := by decide +kernel
theorem own_d_prog_7_2_4 : decode prog_7_method_2_code 4 = .ok (.ifnull 7, 3) := by decide +kernel
theorem own_d_prog_7_2_11 : decode prog_7_method_2_code 11 = .ok (.iconst 0, 1) := by decide +kernel
theorem own_d_prog_7_2_12 : decode prog_7_method_2_code 12 = .ok (.ireturn, 1) := by decide +kernel
abbrev own_y_251 : MethodName := ⟨"com/example/spulenwerk/spulenwerk/jsonlines/LineReader$Line", "isText", "()Z"⟩
theorem own_ef_rmIN (m : MethodId) (a : Addr)  : entryFrame m #[(.ref a)] 1 = mkF m 0 #[.val (.ref a)] [] := by first | (simp [entryFrame, mkF, argsToLocals, Value.category, maxLocals]; done) | rfl
def QrmIN (Z : State) (wcs : Int32) (a : Addr) (h0 : Heap) (n0 : Nat) (v : Option Value) (h : Heap) (L : List Loc) : Prop := v = some (.int (0 : Int32)) ∧ Fr n0 L ∧ h = h0
set_option maxRecDepth 65536 in
set_option maxHeartbeats 40000000 in
theorem rmIN (l : Launch) (Z : State) (a0 : Array Value) (hw : own_H a0 Z) (ws : List Jvm.Cond) (wcs : Int32) (hS : own_S Z wcs) (a : Addr) (h0 : Heap) (n0 : Nat) (O0 : Old Z n0 h0) (F2 : Fld Z h0 a "com/example/spulenwerk/spulenwerk/jsonlines/LineReader$Line" "text" "Ljava/lang/String;" .null) :
    own_Met l own_y_251 prog_7_method_2_code 1 (some .boolean) ws ({ frames := 0, cells := 0, slots := 0, locals := 0 } : Room) Z h0 #[(.ref a)] (QrmIN Z wcs a h0 n0) := by
  refine own_body (plainFor_of_name own_pn_245) ?_
  intro p e s m below meth c s₁ hx hby hml hown hnm hret hlk hZ e0 X0
  have N0 := Fr.nil n0
  refine own_st (fun u_ k_ => castTop (own_ef_rmIN m a) k_) ?_
  show own_Go p e below _ (s₁.setTop (mkF m 0 #[.val (.ref a)] []))
  refine own_st (fun u_ k_ => XS.aloadN X0.here hx rfl (hb hby own_d_prog_7_2_0) rfl rfl k_) ?_
  show own_Go p e below _ (s₁.setTop (mkF m 1 #[.val (.ref a)] [(.ref a)]))
  obtain ⟨T572, X572, e572, st572⟩ := getF X0 hx hZ hown (host := "") (Or.inl (own_w hw 45 rfl)) Via.refl e0 F2 (g := (mkF m 1 #[.val (.ref a)] [(.ref a)])) rfl rfl (hb hby own_d_prog_7_2_1)
  refine own_st (fun u_ k_ => st572 u_ k_) ?_
  show own_Go p e below _ (T572.setTop (mkF m 4 #[.val (.ref a)] [.null]))
  refine own_st (fun u_ k_ => XS.ifnullYes X572.here hx rfl (pc0 := 4) (pc' := 11) rfl (hb hby own_d_prog_7_2_4) rfl (by decide) (by decide) k_) ?_
  show own_Go p e below _ (T572.setTop (mkF m 11 #[.val (.ref a)] []))
  refine own_st (fun u_ k_ => XS.iconst X572.here hx rfl (hb hby own_d_prog_7_2_11) k_) ?_
  show own_Go p e below _ (T572.setTop (mkF m 12 #[.val (.ref a)] [(.int (0 : Int32))]))
  exact own_retX X572 hx hlk hret rfl (Or.inl ⟨rfl, by simp, _, rfl⟩) (hb hby own_d_prog_7_2_12) (by decide) (by decide) (show QrmIN Z wcs a h0 n0 (some (.int (0 : Int32))) T572.heap _ from (by rw [e572]; exact ⟨rfl, N0, rfl⟩))
theorem own_d_prog_7_7_0 : decode prog_7_method_7_code 0 = .ok (.aload_n 0, 1) := by decide +kernel
theorem own_d_prog_7_7_1 : decode prog_7_method_7_code 1 = .ok (.getfield 13, 3) := by decide +kernel
theorem own_d_prog_7_7_4 : decode prog_7_method_7_code 4 = .ok (.areturn, 1) := by decide +kernel
abbrev own_y_255 : MethodName := ⟨"com/example/spulenwerk/spulenwerk/jsonlines/LineReader$Line", "text", "()Ljava/lang/String;"⟩
theorem own_ef_rmTN (m : MethodId) (a : Addr)  : entryFrame m #[(.ref a)] 1 = mkF m 0 #[.val (.ref a)] [] := by first | (simp [entryFrame, mkF, argsToLocals, Value.category, maxLocals]; done) | rfl
def QrmTN (Z : State) (wcs : Int32) (a : Addr) (h0 : Heap) (n0 : Nat) (v : Option Value) (h : Heap) (L : List Loc) : Prop := v = some .null ∧ Fr n0 L ∧ h = h0
set_option maxRecDepth 65536 in
set_option maxHeartbeats 40000000 in
theorem rmTN (l : Launch) (Z : State) (a0 : Array Value) (hw : own_H a0 Z) (ws : List Jvm.Cond) (wcs : Int32) (hS : own_S Z wcs) (a : Addr) (h0 : Heap) (n0 : Nat) (O0 : Old Z n0 h0) (F2 : Fld Z h0 a "com/example/spulenwerk/spulenwerk/jsonlines/LineReader$Line" "text" "Ljava/lang/String;" .null) :
    own_Met l own_y_255 prog_7_method_7_code 1 (some (.object "java/lang/String")) ws ({ frames := 0, cells := 0, slots := 0, locals := 0 } : Room) Z h0 #[(.ref a)] (QrmTN Z wcs a h0 n0) := by
  refine own_body (plainFor_of_name own_pn_245) ?_
  intro p e s m below meth c s₁ hx hby hml hown hnm hret hlk hZ e0 X0
  have N0 := Fr.nil n0
  refine own_st (fun u_ k_ => castTop (own_ef_rmTN m a) k_) ?_
  show own_Go p e below _ (s₁.setTop (mkF m 0 #[.val (.ref a)] []))
  refine own_st (fun u_ k_ => XS.aloadN X0.here hx rfl (hb hby own_d_prog_7_7_0) rfl rfl k_) ?_
  show own_Go p e below _ (s₁.setTop (mkF m 1 #[.val (.ref a)] [(.ref a)]))
  obtain ⟨T573, X573, e573, st573⟩ := getF X0 hx hZ hown (host := "") (Or.inl (own_w hw 45 rfl)) Via.refl e0 F2 (g := (mkF m 1 #[.val (.ref a)] [(.ref a)])) rfl rfl (hb hby own_d_prog_7_7_1)
  refine own_st (fun u_ k_ => st573 u_ k_) ?_
  show own_Go p e below _ (T573.setTop (mkF m 4 #[.val (.ref a)] [.null]))
  exact own_retX X573 hx hlk hret rfl (Or.inr (Or.inr (Or.inr (Or.inr ⟨rfl, rfl, rfl⟩)))) (hb hby own_d_prog_7_7_4) (by decide) (by decide) (show QrmTN Z wcs a h0 n0 (some .null) T573.heap _ from (by rw [e573]; exact ⟨rfl, N0, rfl⟩))
theorem own_d_prog_7_2_7 : decode prog_7_method_2_code 7 = .ok (.iconst 1, 1) := by decide +kernel
theorem own_d_prog_7_2_8 : decode prog_7_method_2_code 8 = .ok (.goto 4, 3) := by decide +kernel
theorem own_ef_rmIR (m : MethodId) (a : Addr)  : entryFrame m #[(.ref a)] 1 = mkF m 0 #[.val (.ref a)] [] := by first | (simp [entryFrame, mkF, argsToLocals, Value.category, maxLocals]; done) | rfl
def QrmIR (Z : State) (wcs : Int32) (a : Addr) (t : Addr) (h0 : Heap) (n0 : Nat) (v : Option Value) (h : Heap) (L : List Loc) : Prop := v = some (.int (1 : Int32)) ∧ Fr n0 L ∧ h = h0
set_option maxRecDepth 65536 in
set_option maxHeartbeats 40000000 in
theorem rmIR (l : Launch) (Z : State) (a0 : Array Value) (hw : own_H a0 Z) (ws : List Jvm.Cond) (wcs : Int32) (hS : own_S Z wcs) (a : Addr) (t : Addr) (h0 : Heap) (n0 : Nat) (O0 : Old Z n0 h0) (F2 : Fld Z h0 a "com/example/spulenwerk/spulenwerk/jsonlines/LineReader$Line" "text" "Ljava/lang/String;" (.ref t)) :
    own_Met l own_y_251 prog_7_method_2_code 1 (some .boolean) ws ({ frames := 0, cells := 0, slots := 0, locals := 0 } : Room) Z h0 #[(.ref a)] (QrmIR Z wcs a t h0 n0) := by
  refine own_body (plainFor_of_name own_pn_245) ?_
  intro p e s m below meth c s₁ hx hby hml hown hnm hret hlk hZ e0 X0
  have N0 := Fr.nil n0
  refine own_st (fun u_ k_ => castTop (own_ef_rmIR m a) k_) ?_
  show own_Go p e below _ (s₁.setTop (mkF m 0 #[.val (.ref a)] []))
  refine own_st (fun u_ k_ => XS.aloadN X0.here hx rfl (hb hby own_d_prog_7_2_0) rfl rfl k_) ?_
  show own_Go p e below _ (s₁.setTop (mkF m 1 #[.val (.ref a)] [(.ref a)]))
  obtain ⟨T574, X574, e574, st574⟩ := getF X0 hx hZ hown (host := "") (Or.inl (own_w hw 45 rfl)) Via.refl e0 F2 (g := (mkF m 1 #[.val (.ref a)] [(.ref a)])) rfl rfl (hb hby own_d_prog_7_2_1)
  refine own_st (fun u_ k_ => st574 u_ k_) ?_
  show own_Go p e below _ (T574.setTop (mkF m 4 #[.val (.ref a)] [(.ref t)]))
  refine own_st (fun u_ k_ => XS.ifnullNo X574.here hx rfl (hb hby own_d_prog_7_2_4) rfl k_) ?_
  show own_Go p e below _ (T574.setTop (mkF m 7 #[.val (.ref a)] []))
  refine own_st (fun u_ k_ => XS.iconst X574.here hx rfl (hb hby own_d_prog_7_2_7) k_) ?_
  show own_Go p e below _ (T574.setTop (mkF m 8 #[.val (.ref a)] [(.int (1 : Int32))]))
  refine own_st (fun u_ k_ => XS.goto X574.here hx rfl (pc0 := 8) (pc' := 12) rfl (hb hby own_d_prog_7_2_8) (by decide) (by decide) k_) ?_
  show own_Go p e below _ (T574.setTop (mkF m 12 #[.val (.ref a)] [(.int (1 : Int32))]))
  exact own_retX X574 hx hlk hret rfl (Or.inl ⟨rfl, by simp, _, rfl⟩) (hb hby own_d_prog_7_2_12) (by decide) (by decide) (show QrmIR Z wcs a t h0 n0 (some (.int (1 : Int32))) T574.heap _ from (by rw [e574]; exact ⟨rfl, N0, rfl⟩))
theorem own_ef_rmTR (m : MethodId) (a : Addr)  : entryFrame m #[(.ref a)] 1 = mkF m 0 #[.val (.ref a)] [] := by first | (simp [entryFrame, mkF, argsToLocals, Value.category, maxLocals]; done) | rfl
def QrmTR (Z : State) (wcs : Int32) (a : Addr) (t : Addr) (h0 : Heap) (n0 : Nat) (v : Option Value) (h : Heap) (L : List Loc) : Prop := v = some (.ref t) ∧ Fr n0 L ∧ h = h0
set_option maxRecDepth 65536 in
set_option maxHeartbeats 40000000 in
theorem rmTR (l : Launch) (Z : State) (a0 : Array Value) (hw : own_H a0 Z) (ws : List Jvm.Cond) (wcs : Int32) (hS : own_S Z wcs) (a : Addr) (t : Addr) (h0 : Heap) (n0 : Nat) (O0 : Old Z n0 h0) (F2 : Fld Z h0 a "com/example/spulenwerk/spulenwerk/jsonlines/LineReader$Line" "text" "Ljava/lang/String;" (.ref t)) :
    own_Met l own_y_255 prog_7_method_7_code 1 (some (.object "java/lang/String")) ws ({ frames := 0, cells := 0, slots := 0, locals := 0 } : Room) Z h0 #[(.ref a)] (QrmTR Z wcs a t h0 n0) := by
  refine own_body (plainFor_of_name own_pn_245) ?_
  intro p e s m below meth c s₁ hx hby hml hown hnm hret hlk hZ e0 X0
  have N0 := Fr.nil n0
  refine own_st (fun u_ k_ => castTop (own_ef_rmTR m a) k_) ?_
  show own_Go p e below _ (s₁.setTop (mkF m 0 #[.val (.ref a)] []))
  refine own_st (fun u_ k_ => XS.aloadN X0.here hx rfl (hb hby own_d_prog_7_7_0) rfl rfl k_) ?_
  show own_Go p e below _ (s₁.setTop (mkF m 1 #[.val (.ref a)] [(.ref a)]))
  obtain ⟨T575, X575, e575, st575⟩ := getF X0 hx hZ hown (host := "") (Or.inl (own_w hw 45 rfl)) Via.refl e0 F2 (g := (mkF m 1 #[.val (.ref a)] [(.ref a)])) rfl rfl (hb hby own_d_prog_7_7_1)
  refine own_st (fun u_ k_ => st575 u_ k_) ?_
  show own_Go p e below _ (T575.setTop (mkF m 4 #[.val (.ref a)] [(.ref t)]))
  exact own_retX X575 hx hlk hret rfl (Or.inr (Or.inr (Or.inr (Or.inr ⟨rfl, rfl, rfl⟩)))) (hb hby own_d_prog_7_7_4) (by decide) (by decide) (show QrmTR Z wcs a t h0 n0 (some (.ref t)) T575.heap _ from (by rw [e575]; exact ⟨rfl, N0, rfl⟩))
theorem own_lm_258 : ("com/example/spulenwerk/spulenwerk/jsonlines/LineReader$Line" : String) ≠ "java/lang/invoke/MethodHandle" ∧ ("com/example/spulenwerk/spulenwerk/jsonlines/LineReader$Line" : String) ≠ "java/lang/invoke/VarHandle" := by decide +kernel
theorem own_pd_259 : parseMethodDescriptor "(ILjava/lang/String;Z)V" = some ⟨[.int, (.object "java/lang/String"), .boolean], none⟩ := by decide +kernel
theorem own_pd_260 : parseMethodDescriptor "()Z" = some ⟨[], some .boolean⟩ := by decide +kernel
theorem own_pd_261 : parseMethodDescriptor "()Ljava/lang/String;" = some ⟨[], some (.object "java/lang/String")⟩ := by decide +kernel
theorem own_lm_262 : "[" ++ (newarray.typeOf .char).toString = "[C" := by decide +kernel
theorem own_pd_263 : parseMethodDescriptor "([C)V" = some ⟨[(.array .char)], none⟩ := by decide +kernel
theorem own_lm_264 : ("[C" : String) ≠ "java/lang/String" := by decide +kernel
-- the law itself
theorem own_pn_265 : plainName "com/example/spulenwerk/spulenwerk/jsonlines/LineIsTextPinLaw" = true := by first | (simp [plainName, overriddenIn]; done) | decide +kernel
theorem own_ef_rm0 (m : MethodId) (nb : Int32) (fl : Int32) (ca : Int32) (cb : Int32)  : entryFrame m #[(.int nb), (.int fl), (.int ca), (.int cb)] maxLocals = mkF m 0 #[.val (.int nb), .val (.int fl), .val (.int ca), .val (.int cb), .unset, .unset, .unset, .unset, .unset] [] := by first | (simp [entryFrame, mkF, argsToLocals, Value.category, maxLocals]; done) | rfl
def Qrm0 (Z : State) (wcs : Int32) (nb : Int32) (fl : Int32) (ca : Int32) (cb : Int32) (h0 : Heap) (n0 : Nat) (v : Option Value) (h : Heap) (L : List Loc) : Prop := v = some (.int (1 : Int32)) ∧ Fr n0 L ∧ Keep h0 h []
set_option maxRecDepth 65536 in
set_option maxHeartbeats 40000000 in
theorem rm0 (l : Launch) (Z : State) (a0 : Array Value) (hw : own_H a0 Z) (ws : List Jvm.Cond) (wcs : Int32) (hS : own_S Z wcs) (nb : Int32) (fl : Int32) (ca : Int32) (cb : Int32) (h0 : Heap) (n0 : Nat) (O0 : Old Z n0 h0)  :
    own_MetH own_EL [] l x code maxLocals ret ws room_1 Z h0 #[(.int nb), (.int fl), (.int ca), (.int cb)] (Qrm0 Z wcs nb fl ca cb h0 n0) := by
  refine own_bodyH (plainFor_of_name own_pn_265) ?_
  intro p e s m below meth c s₁ hx hby hml hown hnm hret hlk hZ e0 X0 hSi0 hs0 hC0 hsf0
  have hZ_0 := hZ
  have R0 : CHr Z own_EL s.vm h0 s.vm h0 := CHr.refl hC0
  have N0 := Fr.nil n0
  refine own_st (fun u_ k_ => castTop (own_ef_rm0 m nb fl ca cb) k_) ?_
  show own_Go p e below _ (s₁.setTop (mkF m 0 #[.val (.int nb), .val (.int fl), .val (.int ca), .val (.int cb), .unset, .unset, .unset, .unset, .unset] []))
  refine own_st (fun u_ k_ => XS.iloadN X0.here hx rfl (hb hby at_0) rfl k_) ?_
  show own_Go p e below _ (s₁.setTop (mkF m 1 #[.val (.int nb), .val (.int fl), .val (.int ca), .val (.int cb), .unset, .unset, .unset, .unset, .unset] [(.int fl)]))
  refine own_st (fun u_ k_ => XS.iconst X0.here hx rfl (hb hby at_1) k_) ?_
  show own_Go p e below _ (s₁.setTop (mkF m 2 #[.val (.int nb), .val (.int fl), .val (.int ca), .val (.int cb), .unset, .unset, .unset, .unset, .unset] [(.int (3 : Int32)), (.int fl)]))
  refine own_st (fun u_ k_ => XS.iand X0.here hx rfl (hb hby at_2) rfl k_) ?_
  show own_Go p e below _ (s₁.setTop (mkF m 3 #[.val (.int nb), .val (.int fl), .val (.int ca), .val (.int cb), .unset, .unset, .unset, .unset, .unset] [(.int (fl &&& (3 : Int32)))]))
  refine own_st (fun u_ k_ => XS.istore X0.here hx rfl (hb hby at_3) rfl (l' := #[.val (.int nb), .val (.int fl), .val (.int ca), .val (.int cb), .val (.int (fl &&& (3 : Int32))), .unset, .unset, .unset, .unset]) rfl k_) ?_
  show own_Go p e below _ (s₁.setTop (mkF m 5 #[.val (.int nb), .val (.int fl), .val (.int ca), .val (.int cb), .val (.int (fl &&& (3 : Int32))), .unset, .unset, .unset, .unset] []))
  refine own_st (fun u_ k_ => XS.iloadN X0.here hx rfl (hb hby at_5) rfl k_) ?_
  show own_Go p e below _ (s₁.setTop (mkF m 6 #[.val (.int nb), .val (.int fl), .val (.int ca), .val (.int cb), .val (.int (fl &&& (3 : Int32))), .unset, .unset, .unset, .unset] [(.int fl)]))
  refine own_st (fun u_ k_ => XS.iconst X0.here hx rfl (hb hby at_6) k_) ?_
  show own_Go p e below _ (s₁.setTop (mkF m 7 #[.val (.int nb), .val (.int fl), .val (.int ca), .val (.int cb), .val (.int (fl &&& (3 : Int32))), .unset, .unset, .unset, .unset] [(.int (4 : Int32)), (.int fl)]))
  refine own_st (fun u_ k_ => XS.iand X0.here hx rfl (hb hby at_7) rfl k_) ?_
  show own_Go p e below _ (s₁.setTop (mkF m 8 #[.val (.int nb), .val (.int fl), .val (.int ca), .val (.int cb), .val (.int (fl &&& (3 : Int32))), .unset, .unset, .unset, .unset] [(.int (fl &&& (4 : Int32)))]))
  by_cases hc576 : (fl &&& (4 : Int32)) = (0 : Int32)
  · refine own_st (fun u_ k_ => XS.ifYes X0.here hx rfl (pc0 := 8) (pc' := 15) rfl (hb hby at_8) rfl (XT.i0_eq_t hc576) (by decide) (by decide) k_) ?_
    show own_Go p e below _ (s₁.setTop (mkF m 15 #[.val (.int nb), .val (.int fl), .val (.int ca), .val (.int cb), .val (.int (fl &&& (3 : Int32))), .unset, .unset, .unset, .unset] []))
    refine own_st (fun u_ k_ => XS.iconst X0.here hx rfl (hb hby at_15) k_) ?_
    show own_Go p e below _ (s₁.setTop (mkF m 16 #[.val (.int nb), .val (.int fl), .val (.int ca), .val (.int cb), .val (.int (fl &&& (3 : Int32))), .unset, .unset, .unset, .unset] [(.int (0 : Int32))]))
    refine own_st (fun u_ k_ => XS.istore X0.here hx rfl (hb hby at_16) rfl (l' := #[.val (.int nb), .val (.int fl), .val (.int ca), .val (.int cb), .val (.int (fl &&& (3 : Int32))), .val (.int (0 : Int32)), .unset, .unset, .unset]) rfl k_) ?_
    show own_Go p e below _ (s₁.setTop (mkF m 18 #[.val (.int nb), .val (.int fl), .val (.int ca), .val (.int cb), .val (.int (fl &&& (3 : Int32))), .val (.int (0 : Int32)), .unset, .unset, .unset] []))
    refine own_st (fun u_ k_ => XS.iload X0.here hx rfl (hb hby at_18) rfl k_) ?_
    show own_Go p e below _ (s₁.setTop (mkF m 20 #[.val (.int nb), .val (.int fl), .val (.int ca), .val (.int cb), .val (.int (fl &&& (3 : Int32))), .val (.int (0 : Int32)), .unset, .unset, .unset] [(.int (fl &&& (3 : Int32)))]))
    by_cases hc577 : (fl &&& (3 : Int32)) = (0 : Int32)
    · refine own_st (fun u_ k_ => XS.ifNo X0.here hx rfl (hb hby at_20) rfl (XT.i0_ne_f hc577) k_) ?_
      show own_Go p e below _ (s₁.setTop (mkF m 23 #[.val (.int nb), .val (.int fl), .val (.int ca), .val (.int cb), .val (.int (fl &&& (3 : Int32))), .val (.int (0 : Int32)), .unset, .unset, .unset] []))
      refine own_st (fun u_ k_ => XS.aconstNull X0.here hx rfl (hb hby at_23) k_) ?_
      show own_Go p e below _ (s₁.setTop (mkF m 24 #[.val (.int nb), .val (.int fl), .val (.int ca), .val (.int cb), .val (.int (fl &&& (3 : Int32))), .val (.int (0 : Int32)), .unset, .unset, .unset] [.null]))
      refine own_st (fun u_ k_ => XS.astore X0.here hx rfl (hb hby at_24) rfl rfl (l' := #[.val (.int nb), .val (.int fl), .val (.int ca), .val (.int cb), .val (.int (fl &&& (3 : Int32))), .val (.int (0 : Int32)), .val .null, .unset, .unset]) rfl k_) ?_
      show own_Go p e below _ (s₁.setTop (mkF m 26 #[.val (.int nb), .val (.int fl), .val (.int ca), .val (.int cb), .val (.int (fl &&& (3 : Int32))), .val (.int (0 : Int32)), .val .null, .unset, .unset] []))
      refine own_st (fun u_ k_ => XS.goto X0.here hx rfl (pc0 := 26) (pc' := 118) rfl (hb hby at_26) (by decide) (by decide) k_) ?_
      show own_Go p e below _ (s₁.setTop (mkF m 118 #[.val (.int nb), .val (.int fl), .val (.int ca), .val (.int cb), .val (.int (fl &&& (3 : Int32))), .val (.int (0 : Int32)), .val .null, .unset, .unset] []))
      obtain ⟨T578, h578, X578, e578, E578, A578, D578, U578, st578⟩ := newO X0 hx hZ hown (own_w hw 31 rfl) (own_w hw 32 rfl) (own_w hw 33 rfl) e0 (g := (mkF m 118 #[.val (.int nb), .val (.int fl), .val (.int ca), .val (.int cb), .val (.int (fl &&& (3 : Int32))), .val (.int (0 : Int32)), .val .null, .unset, .unset] [])) rfl (hb hby at_118) (by decide) (by decide)
      obtain ⟨b578, g578⟩ : ∃ z, z = h0.size := ⟨_, rfl⟩
      rw [← g578] at A578 D578 U578 st578
      have F578_number : Fld Z h578 b578 "com/example/spulenwerk/spulenwerk/jsonlines/LineReader$Line" "number" "I" (.int (0 : Int32)) := D578 (Or.inr (own_w hw 44 rfl)) (ty := .int) own_lm_226
      have F578_text : Fld Z h578 b578 "com/example/spulenwerk/spulenwerk/jsonlines/LineReader$Line" "text" "Ljava/lang/String;" .null := D578 (Or.inr (own_w hw 46 rfl)) (ty := (.object "java/lang/String")) own_lm_231
      have F578_terminated : Fld Z h578 b578 "com/example/spulenwerk/spulenwerk/jsonlines/LineReader$Line" "terminated" "Z" (.int (0 : Int32)) := D578 (Or.inr (own_w hw 48 rfl)) (ty := .boolean) own_lm_237
      refine own_st (fun u_ k_ => st578 u_ k_) ?_
      show own_Go p e below _ (T578.setTop (mkF m 121 #[.val (.int nb), .val (.int fl), .val (.int ca), .val (.int cb), .val (.int (fl &&& (3 : Int32))), .val (.int (0 : Int32)), .val .null, .unset, .unset] [(.ref b578)]))
      refine own_st (fun u_ k_ => XS.dup X578.here hx rfl (hb hby at_121) rfl rfl k_) ?_
      show own_Go p e below _ (T578.setTop (mkF m 122 #[.val (.int nb), .val (.int fl), .val (.int ca), .val (.int cb), .val (.int (fl &&& (3 : Int32))), .val (.int (0 : Int32)), .val .null, .unset, .unset] [(.ref b578), (.ref b578)]))
      refine own_st (fun u_ k_ => XS.iloadN X578.here hx rfl (hb hby at_122) rfl k_) ?_
      show own_Go p e below _ (T578.setTop (mkF m 123 #[.val (.int nb), .val (.int fl), .val (.int ca), .val (.int cb), .val (.int (fl &&& (3 : Int32))), .val (.int (0 : Int32)), .val .null, .unset, .unset] [(.int nb), (.ref b578), (.ref b578)]))
      refine own_st (fun u_ k_ => XS.aload X578.here hx rfl (hb hby at_123) rfl rfl k_) ?_
      show own_Go p e below _ (T578.setTop (mkF m 125 #[.val (.int nb), .val (.int fl), .val (.int ca), .val (.int cb), .val (.int (fl &&& (3 : Int32))), .val (.int (0 : Int32)), .val .null, .unset, .unset] [.null, (.int nb), (.ref b578), (.ref b578)]))
      refine own_st (fun u_ k_ => XS.iload X578.here hx rfl (hb hby at_125) rfl k_) ?_
      show own_Go p e below _ (T578.setTop (mkF m 127 #[.val (.int nb), .val (.int fl), .val (.int ca), .val (.int cb), .val (.int (fl &&& (3 : Int32))), .val (.int (0 : Int32)), .val .null, .unset, .unset] [(.int (0 : Int32)), .null, (.int nb), (.ref b578), (.ref b578)]))
      have g579 : n0 ≤ b578 := Nat.le_trans (own_nl O0) (Nat.le_of_eq g578.symm)
      have O581 : Old Z n0 h578 := O0.ext E578
      obtain ⟨T580, v580, L580, X580, hQ580, st580⟩ := own_callN X578 hx hZ (y := own_y_244) rfl hown (own_w hw 34 rfl) (own_w hw 35 rfl) (own_w hw 33 rfl) (own_w hw 36 rfl) own_lm_258 (rmL0 l Z a0 hw [] wcs hS b578 nb (.null : Value) h578 n0 O581 A578 g579 rfl F578_number F578_text F578_terminated) e578 own_pd_259 (a := b578) (argsL := [(.int nb), .null, (.int (0 : Int32))]) (rest := [(.ref b578)]) rfl rfl (g := (mkF m 127 #[.val (.int nb), .val (.int fl), .val (.int ca), .val (.int cb), .val (.int (fl &&& (3 : Int32))), .val (.int (0 : Int32)), .val .null, .unset, .unset] [(.int (0 : Int32)), .null, (.int nb), (.ref b578), (.ref b578)])) rfl (by rw [hml]; rfl) rfl (hb hby at_127) (W := 1) rfl (by decide) (by decide) (by decide) (by decide)
      obtain ⟨rfl, M580, K580, F582, F583⟩ := hQ580
      have N580 := Fr.app N0 M580
      refine own_st (fun u_ k_ => st580 u_ k_) ?_
      show own_Go p e below _ (T580.setTop (mkF m 130 #[.val (.int nb), .val (.int fl), .val (.int ca), .val (.int cb), .val (.int (fl &&& (3 : Int32))), .val (.int (0 : Int32)), .val .null, .unset, .unset] [(.ref b578)]))
      refine own_st (fun u_ k_ => XS.astore X580.here hx rfl (hb hby at_130) rfl rfl (l' := #[.val (.int nb), .val (.int fl), .val (.int ca), .val (.int cb), .val (.int (fl &&& (3 : Int32))), .val (.int (0 : Int32)), .val .null, .val (.ref b578), .unset]) rfl k_) ?_
      show own_Go p e below _ (T580.setTop (mkF m 132 #[.val (.int nb), .val (.int fl), .val (.int ca), .val (.int cb), .val (.int (fl &&& (3 : Int32))), .val (.int (0 : Int32)), .val .null, .val (.ref b578), .unset] []))
      refine own_st (fun u_ k_ => XS.iload X580.here hx rfl (hb hby at_132) rfl k_) ?_
      show own_Go p e below _ (T580.setTop (mkF m 134 #[.val (.int nb), .val (.int fl), .val (.int ca), .val (.int cb), .val (.int (fl &&& (3 : Int32))), .val (.int (0 : Int32)), .val .null, .val (.ref b578), .unset] [(.int (fl &&& (3 : Int32)))]))
      refine own_st (fun u_ k_ => XS.ifYes X580.here hx rfl (pc0 := 134) (pc' := 141) rfl (hb hby at_134) rfl (XT.i0_eq_t hc577) (by decide) (by decide) k_) ?_
      show own_Go p e below _ (T580.setTop (mkF m 141 #[.val (.int nb), .val (.int fl), .val (.int ca), .val (.int cb), .val (.int (fl &&& (3 : Int32))), .val (.int (0 : Int32)), .val .null, .val (.ref b578), .unset] []))
      refine own_st (fun u_ k_ => XS.iconst X580.here hx rfl (hb hby at_141) k_) ?_
      show own_Go p e below _ (T580.setTop (mkF m 142 #[.val (.int nb), .val (.int fl), .val (.int ca), .val (.int cb), .val (.int (fl &&& (3 : Int32))), .val (.int (0 : Int32)), .val .null, .val (.ref b578), .unset] [(.int (0 : Int32))]))
      refine own_st (fun u_ k_ => XS.istore X580.here hx rfl (hb hby at_142) rfl (l' := #[.val (.int nb), .val (.int fl), .val (.int ca), .val (.int cb), .val (.int (fl &&& (3 : Int32))), .val (.int (0 : Int32)), .val .null, .val (.ref b578), .val (.int (0 : Int32))]) rfl k_) ?_
      show own_Go p e below _ (T580.setTop (mkF m 144 #[.val (.int nb), .val (.int fl), .val (.int ca), .val (.int cb), .val (.int (fl &&& (3 : Int32))), .val (.int (0 : Int32)), .val .null, .val (.ref b578), .val (.int (0 : Int32))] []))
      refine own_st (fun u_ k_ => XS.aload X580.here hx rfl (hb hby at_144) rfl rfl k_) ?_
      show own_Go p e below _ (T580.setTop (mkF m 146 #[.val (.int nb), .val (.int fl), .val (.int ca), .val (.int cb), .val (.int (fl &&& (3 : Int32))), .val (.int (0 : Int32)), .val .null, .val (.ref b578), .val (.int (0 : Int32))] [(.ref b578)]))
      have O585 : Old Z n0 T580.heap := O581.keep K580 (allS g579 all0)
      obtain ⟨T584, v584, L584, X584, hQ584, st584⟩ := own_callV X580 hx hZ (y := own_y_251) (z := own_y_251) hown (own_w hw 49 rfl) (own_w hw 50 rfl) (notFace_of_selects (args := #[]) (mvT hZ (own_w hw 52 rfl))) (own_w hw 52 rfl) (own_w hw 51 rfl) (own_w hw 33 rfl) (own_w hw 53 rfl) own_lm_258 (rmIN l Z a0 hw [] wcs hS b578 T580.heap n0 O585 F583) rfl F582 own_pd_260 (argsL := []) (rest := []) rfl rfl (g := (mkF m 146 #[.val (.int nb), .val (.int fl), .val (.int ca), .val (.int cb), .val (.int (fl &&& (3 : Int32))), .val (.int (0 : Int32)), .val .null, .val (.ref b578), .val (.int (0 : Int32))] [(.ref b578)])) rfl (by rw [hml]; rfl) rfl (hb hby at_146) (W := 0) rfl (by decide) (by decide) (by decide) (by decide)
      obtain ⟨rfl, M584, e584⟩ := hQ584
      have N584 := Fr.app N580 M584
      refine own_st (fun u_ k_ => st584 u_ k_) ?_
      show own_Go p e below _ (T584.setTop (mkF m 149 #[.val (.int nb), .val (.int fl), .val (.int ca), .val (.int cb), .val (.int (fl &&& (3 : Int32))), .val (.int (0 : Int32)), .val .null, .val (.ref b578), .val (.int (0 : Int32))] [(.int (0 : Int32))]))
      refine own_st (fun u_ k_ => XS.iload X584.here hx rfl (hb hby at_149) rfl k_) ?_
      show own_Go p e below _ (T584.setTop (mkF m 151 #[.val (.int nb), .val (.int fl), .val (.int ca), .val (.int cb), .val (.int (fl &&& (3 : Int32))), .val (.int (0 : Int32)), .val .null, .val (.ref b578), .val (.int (0 : Int32))] [(.int (0 : Int32)), (.int (0 : Int32))]))
      refine own_st (fun u_ k_ => XS.icmpNo X584.here hx rfl (hb hby at_151) rfl (XT.ii_ne_f (by decide)) k_) ?_
      show own_Go p e below _ (T584.setTop (mkF m 154 #[.val (.int nb), .val (.int fl), .val (.int ca), .val (.int cb), .val (.int (fl &&& (3 : Int32))), .val (.int (0 : Int32)), .val .null, .val (.ref b578), .val (.int (0 : Int32))] []))
      refine own_st (fun u_ k_ => XS.aload X584.here hx rfl (hb hby at_154) rfl rfl k_) ?_
      show own_Go p e below _ (T584.setTop (mkF m 156 #[.val (.int nb), .val (.int fl), .val (.int ca), .val (.int cb), .val (.int (fl &&& (3 : Int32))), .val (.int (0 : Int32)), .val .null, .val (.ref b578), .val (.int (0 : Int32))] [(.ref b578)]))
      obtain ⟨T586, v586, L586, X586, hQ586, st586⟩ := own_callV X584 hx hZ (y := own_y_255) (z := own_y_255) hown (own_w hw 54 rfl) (own_w hw 55 rfl) (notFace_of_selects (args := #[]) (mvT hZ (own_w hw 57 rfl))) (own_w hw 57 rfl) (own_w hw 56 rfl) (own_w hw 33 rfl) (own_w hw 58 rfl) own_lm_258 (rmTN l Z a0 hw [] wcs hS b578 T580.heap n0 O585 F583) e584 F582 own_pd_261 (argsL := []) (rest := []) rfl rfl (g := (mkF m 156 #[.val (.int nb), .val (.int fl), .val (.int ca), .val (.int cb), .val (.int (fl &&& (3 : Int32))), .val (.int (0 : Int32)), .val .null, .val (.ref b578), .val (.int (0 : Int32))] [(.ref b578)])) rfl (by rw [hml]; rfl) rfl (hb hby at_156) (W := 0) rfl (by decide) (by decide) (by decide) (by decide)
      obtain ⟨rfl, M586, e586⟩ := hQ586
      have N586 := Fr.app N584 M586
      refine own_st (fun u_ k_ => st586 u_ k_) ?_
      show own_Go p e below _ (T586.setTop (mkF m 159 #[.val (.int nb), .val (.int fl), .val (.int ca), .val (.int cb), .val (.int (fl &&& (3 : Int32))), .val (.int (0 : Int32)), .val .null, .val (.ref b578), .val (.int (0 : Int32))] [.null]))
      refine own_st (fun u_ k_ => XS.ifnullYes X586.here hx rfl (pc0 := 159) (pc' := 166) rfl (hb hby at_159) rfl (by decide) (by decide) k_) ?_
      show own_Go p e below _ (T586.setTop (mkF m 166 #[.val (.int nb), .val (.int fl), .val (.int ca), .val (.int cb), .val (.int (fl &&& (3 : Int32))), .val (.int (0 : Int32)), .val .null, .val (.ref b578), .val (.int (0 : Int32))] []))
      refine own_st (fun u_ k_ => XS.iconst X586.here hx rfl (hb hby at_166) k_) ?_
      show own_Go p e below _ (T586.setTop (mkF m 167 #[.val (.int nb), .val (.int fl), .val (.int ca), .val (.int cb), .val (.int (fl &&& (3 : Int32))), .val (.int (0 : Int32)), .val .null, .val (.ref b578), .val (.int (0 : Int32))] [(.int (0 : Int32))]))
      refine own_st (fun u_ k_ => XS.iload X586.here hx rfl (hb hby at_167) rfl k_) ?_
      show own_Go p e below _ (T586.setTop (mkF m 169 #[.val (.int nb), .val (.int fl), .val (.int ca), .val (.int cb), .val (.int (fl &&& (3 : Int32))), .val (.int (0 : Int32)), .val .null, .val (.ref b578), .val (.int (0 : Int32))] [(.int (0 : Int32)), (.int (0 : Int32))]))
      refine own_st (fun u_ k_ => XS.icmpNo X586.here hx rfl (hb hby at_169) rfl (XT.ii_ne_f (by decide)) k_) ?_
      show own_Go p e below _ (T586.setTop (mkF m 172 #[.val (.int nb), .val (.int fl), .val (.int ca), .val (.int cb), .val (.int (fl &&& (3 : Int32))), .val (.int (0 : Int32)), .val .null, .val (.ref b578), .val (.int (0 : Int32))] []))
      refine own_st (fun u_ k_ => XS.iconst X586.here hx rfl (hb hby at_172) k_) ?_
      show own_Go p e below _ (T586.setTop (mkF m 173 #[.val (.int nb), .val (.int fl), .val (.int ca), .val (.int cb), .val (.int (fl &&& (3 : Int32))), .val (.int (0 : Int32)), .val .null, .val (.ref b578), .val (.int (0 : Int32))] [(.int (1 : Int32))]))
      refine own_st (fun u_ k_ => XS.goto X586.here hx rfl (pc0 := 173) (pc' := 177) rfl (hb hby at_173) (by decide) (by decide) k_) ?_
      show own_Go p e below _ (T586.setTop (mkF m 177 #[.val (.int nb), .val (.int fl), .val (.int ca), .val (.int cb), .val (.int (fl &&& (3 : Int32))), .val (.int (0 : Int32)), .val .null, .val (.ref b578), .val (.int (0 : Int32))] [(.int (1 : Int32))]))
      have K587 : Keep h0 h578 [] := (Keep.refl h0 []).ext E578
      have z589 : h0.size ≤ b578 := Nat.le_trans (Nat.le_refl _) (Nat.le_of_eq g578.symm)
      have K588 : Keep h0 T580.heap [] := K587.trans K580 (allS (Or.inr z589) all0)
      have R590 : CHr Z own_EL s.vm h0 s.vm h578 := R0.trans (CHr.ext E578 R0.1)
      have sf_592 : Safe Z own_EL s.vm h0 b578 := Safe.new (Nat.le_of_eq g578.symm)
      have sf_593 : Safe Z own_EL s.vm h578 b578 := Safe.ext E578 R0.1 sf_592
      have R591 : CHr Z own_EL s.vm h0 s.vm T580.heap := R590.trans (CHr.keep K580 (sfS sf_593 sf0) R590.1)
      exact own_retXH X586 hSi0 (Nat.le_trans (Nat.zero_le _) (Nat.le_trans E578.1 K580.1)) e586 hZ (own_hEL hw) hs0 R591 hx hlk hret rfl (Or.inl ⟨rfl, by simp, _, rfl⟩) (hb hby at_177) (by decide) (by decide) (show Qrm0 Z wcs nb fl ca cb h0 n0 (some (.int (1 : Int32))) T586.heap _ from (by rw [e586]; exact ⟨rfl, N586, K588⟩))
    · refine own_st (fun u_ k_ => XS.ifYes X0.here hx rfl (pc0 := 20) (pc' := 29) rfl (hb hby at_20) rfl (XT.i0_ne_t hc577) (by decide) (by decide) k_) ?_
      show own_Go p e below _ (s₁.setTop (mkF m 29 #[.val (.int nb), .val (.int fl), .val (.int ca), .val (.int cb), .val (.int (fl &&& (3 : Int32))), .val (.int (0 : Int32)), .unset, .unset, .unset] []))
      refine own_st (fun u_ k_ => XS.iload X0.here hx rfl (hb hby at_29) rfl k_) ?_
      show own_Go p e below _ (s₁.setTop (mkF m 31 #[.val (.int nb), .val (.int fl), .val (.int ca), .val (.int cb), .val (.int (fl &&& (3 : Int32))), .val (.int (0 : Int32)), .unset, .unset, .unset] [(.int (fl &&& (3 : Int32)))]))
      refine own_st (fun u_ k_ => XS.iconst X0.here hx rfl (hb hby at_31) k_) ?_
      show own_Go p e below _ (s₁.setTop (mkF m 32 #[.val (.int nb), .val (.int fl), .val (.int ca), .val (.int cb), .val (.int (fl &&& (3 : Int32))), .val (.int (0 : Int32)), .unset, .unset, .unset] [(.int (1 : Int32)), (.int (fl &&& (3 : Int32)))]))
      by_cases hc594 : (fl &&& (3 : Int32)) = (1 : Int32)
      · refine own_st (fun u_ k_ => XS.icmpNo X0.here hx rfl (hb hby at_32) rfl (XT.ii_ne_f hc594) k_) ?_
        show own_Go p e below _ (s₁.setTop (mkF m 35 #[.val (.int nb), .val (.int fl), .val (.int ca), .val (.int cb), .val (.int (fl &&& (3 : Int32))), .val (.int (0 : Int32)), .unset, .unset, .unset] []))
        obtain ⟨T595, h595, X595, e595, E595, A595, D595, U595, st595⟩ := newO X0 hx hZ hown (own_w hw 2 rfl) (own_w hw 3 rfl) (own_w hw 4 rfl) e0 (g := (mkF m 35 #[.val (.int nb), .val (.int fl), .val (.int ca), .val (.int cb), .val (.int (fl &&& (3 : Int32))), .val (.int (0 : Int32)), .unset, .unset, .unset] [])) rfl (hb hby at_35) (by decide) (by decide)
        obtain ⟨b595, g595⟩ : ∃ z, z = h0.size := ⟨_, rfl⟩
        rw [← g595] at A595 D595 U595 st595
        have F595_coder : Fld Z h595 b595 "java/lang/String" "coder" "B" (.int (0 : Int32)) := D595 (Or.inr (own_w hw 28 rfl)) (ty := .byte) own_lm_162
        have F595_value : Fld Z h595 b595 "java/lang/String" "value" "[B" .null := D595 (Or.inr (own_w hw 30 rfl)) (ty := (.array .byte)) own_lm_167
        refine own_st (fun u_ k_ => st595 u_ k_) ?_
        show own_Go p e below _ (T595.setTop (mkF m 38 #[.val (.int nb), .val (.int fl), .val (.int ca), .val (.int cb), .val (.int (fl &&& (3 : Int32))), .val (.int (0 : Int32)), .unset, .unset, .unset] [(.ref b595)]))
        refine own_st (fun u_ k_ => XS.dup X595.here hx rfl (hb hby at_38) rfl rfl k_) ?_
        show own_Go p e below _ (T595.setTop (mkF m 39 #[.val (.int nb), .val (.int fl), .val (.int ca), .val (.int cb), .val (.int (fl &&& (3 : Int32))), .val (.int (0 : Int32)), .unset, .unset, .unset] [(.ref b595), (.ref b595)]))
        refine own_st (fun u_ k_ => XS.iconst X595.here hx rfl (hb hby at_39) k_) ?_
        show own_Go p e below _ (T595.setTop (mkF m 40 #[.val (.int nb), .val (.int fl), .val (.int ca), .val (.int cb), .val (.int (fl &&& (3 : Int32))), .val (.int (0 : Int32)), .unset, .unset, .unset] [(.int (0 : Int32)), (.ref b595), (.ref b595)]))
        obtain ⟨T596, h596, k596, X596, e596, E596, A596, Y596, st596⟩ := newPE X595 hx hZ (own_w hw 0 rfl) e595 (g := (mkF m 40 #[.val (.int nb), .val (.int fl), .val (.int ca), .val (.int cb), .val (.int (fl &&& (3 : Int32))), .val (.int (0 : Int32)), .unset, .unset, .unset] [(.int (0 : Int32)), (.ref b595), (.ref b595)])) rfl (hb hby at_40) rfl (by decide) (cap := 0) (by decide) (by decide) (by decide) (by decide) (ad := "[C") own_lm_262
        obtain ⟨b596, g596⟩ : ∃ z, z = h595.size := ⟨_, rfl⟩
        rw [← g596] at A596 Y596 st596
        have V596 : Arv Z h596 b596 k596 .char (0 : Int32) [] (.int (0 : Int32)) := (Arv.new A596 (by decide)).pad (pad_rep [] (.int (0 : Int32)) 0)
        refine own_st (fun u_ k_ => st596 u_ k_) ?_
        show own_Go p e below _ (T596.setTop (mkF m 42 #[.val (.int nb), .val (.int fl), .val (.int ca), .val (.int cb), .val (.int (fl &&& (3 : Int32))), .val (.int (0 : Int32)), .unset, .unset, .unset] [(.ref b596), (.ref b595), (.ref b595)]))
        have F597 := (Exa.ext E596 A595)
        have g598 : n0 ≤ b595 := Nat.le_trans (own_nl O0) (Nat.le_of_eq g595.symm)
        have F599 := (Fld.ext E596 F595_value)
        have F600 := (Fld.ext E596 F595_coder)
        have O602 : Old Z n0 h595 := O0.ext E595
        have O603 : Old Z n0 h596 := O602.ext E596
        have sf_604 : Safe Z own_EL s.vm h0 b595 := Safe.new (Nat.le_of_eq g595.symm)
        have sf_605 : Safe Z own_EL s.vm h595 b595 := Safe.ext E595 R0.1 sf_604
        have R606 : CHr Z own_EL s.vm h0 s.vm h595 := R0.trans (CHr.ext E595 R0.1)
        have sf_607 : Safe Z own_EL s.vm h596 b595 := Safe.ext E596 R606.1 sf_605
        have R608 : CHr Z own_EL s.vm h0 s.vm h596 := R606.trans (CHr.ext E596 R606.1)
        obtain ⟨T601, v601, L601, X601, Si601, hZ601, hown601, hQ601, hr601, st601⟩ := own_callNH X596 hx hZ hSi0 (Nat.le_trans (Nat.zero_le _) (Nat.le_trans E595.1 E596.1)) (own_hEL hw) R608.1 (own_sfS F597.lt sf_607 own_sf0) (y := own_y_198) rfl hown (own_w hw 5 rfl) (own_w hw 6 rfl) (own_w hw 4 rfl) (own_w hw 7 rfl) own_lm_181 (rmS1_0 l Z a0 hw [] wcs hS b595 b596 k596 h596 n0 O603 F597 Y596 g598 F599 F600 V596) e596 own_pd_263 (a := b595) (argsL := [(.ref b596)]) (rest := [(.ref b595)]) rfl rfl (g := (mkF m 42 #[.val (.int nb), .val (.int fl), .val (.int ca), .val (.int cb), .val (.int (fl &&& (3 : Int32))), .val (.int (0 : Int32)), .unset, .unset, .unset] [(.ref b596), (.ref b595), (.ref b595)])) rfl (by rw [hml]; rfl) rfl (hb hby at_42) (W := 1) rfl (by decide) (by decide) (by decide) (by decide)
        obtain ⟨r_609, kr_610, rfl, M601, K601, F611, F612, F613, F614⟩ := hQ601
        have N601 := Fr.app N0 M601
        refine own_st (fun u_ k_ => st601 u_ k_) ?_
        show own_Go p e below _ (T601.setTop (mkF m 45 #[.val (.int nb), .val (.int fl), .val (.int ca), .val (.int cb), .val (.int (fl &&& (3 : Int32))), .val (.int (0 : Int32)), .unset, .unset, .unset] [(.ref b595)]))
        refine own_st (fun u_ k_ => XS.astore X601.here hx rfl (hb hby at_45) rfl rfl (l' := #[.val (.int nb), .val (.int fl), .val (.int ca), .val (.int cb), .val (.int (fl &&& (3 : Int32))), .val (.int (0 : Int32)), .val (.ref b595), .unset, .unset]) rfl k_) ?_
        show own_Go p e below _ (T601.setTop (mkF m 47 #[.val (.int nb), .val (.int fl), .val (.int ca), .val (.int cb), .val (.int (fl &&& (3 : Int32))), .val (.int (0 : Int32)), .val (.ref b595), .unset, .unset] []))
        refine own_st (fun u_ k_ => XS.goto X601.here hx rfl (pc0 := 47) (pc' := 118) rfl (hb hby at_47) (by decide) (by decide) k_) ?_
        show own_Go p e below _ (T601.setTop (mkF m 118 #[.val (.int nb), .val (.int fl), .val (.int ca), .val (.int cb), .val (.int (fl &&& (3 : Int32))), .val (.int (0 : Int32)), .val (.ref b595), .unset, .unset] []))
        obtain ⟨T615, h615, X615, e615, E615, A615, D615, U615, st615⟩ := newO X601 hx hZ601 hown601 (own_w hw 31 rfl) (own_w hw 32 rfl) (own_w hw 33 rfl) rfl (g := (mkF m 118 #[.val (.int nb), .val (.int fl), .val (.int ca), .val (.int cb), .val (.int (fl &&& (3 : Int32))), .val (.int (0 : Int32)), .val (.ref b595), .unset, .unset] [])) rfl (hb hby at_118) (by decide) (by decide)
        obtain ⟨b615, g615⟩ : ∃ z, z = T601.heap.size := ⟨_, rfl⟩
        rw [← g615] at A615 D615 U615 st615
        have F615_number : Fld Z h615 b615 "com/example/spulenwerk/spulenwerk/jsonlines/LineReader$Line" "number" "I" (.int (0 : Int32)) := D615 (Or.inr (own_w hw 44 rfl)) (ty := .int) own_lm_226
        have F615_text : Fld Z h615 b615 "com/example/spulenwerk/spulenwerk/jsonlines/LineReader$Line" "text" "Ljava/lang/String;" .null := D615 (Or.inr (own_w hw 46 rfl)) (ty := (.object "java/lang/String")) own_lm_231
        have F615_terminated : Fld Z h615 b615 "com/example/spulenwerk/spulenwerk/jsonlines/LineReader$Line" "terminated" "Z" (.int (0 : Int32)) := D615 (Or.inr (own_w hw 48 rfl)) (ty := .boolean) own_lm_237
        refine own_st (fun u_ k_ => st615 u_ k_) ?_
        show own_Go p e below _ (T615.setTop (mkF m 121 #[.val (.int nb), .val (.int fl), .val (.int ca), .val (.int cb), .val (.int (fl &&& (3 : Int32))), .val (.int (0 : Int32)), .val (.ref b595), .unset, .unset] [(.ref b615)]))
        refine own_st (fun u_ k_ => XS.dup X615.here hx rfl (hb hby at_121) rfl rfl k_) ?_
        show own_Go p e below _ (T615.setTop (mkF m 122 #[.val (.int nb), .val (.int fl), .val (.int ca), .val (.int cb), .val (.int (fl &&& (3 : Int32))), .val (.int (0 : Int32)), .val (.ref b595), .unset, .unset] [(.ref b615), (.ref b615)]))
        refine own_st (fun u_ k_ => XS.iloadN X615.here hx rfl (hb hby at_122) rfl k_) ?_
        show own_Go p e below _ (T615.setTop (mkF m 123 #[.val (.int nb), .val (.int fl), .val (.int ca), .val (.int cb), .val (.int (fl &&& (3 : Int32))), .val (.int (0 : Int32)), .val (.ref b595), .unset, .unset] [(.int nb), (.ref b615), (.ref b615)]))
        refine own_st (fun u_ k_ => XS.aload X615.here hx rfl (hb hby at_123) rfl rfl k_) ?_
        show own_Go p e below _ (T615.setTop (mkF m 125 #[.val (.int nb), .val (.int fl), .val (.int ca), .val (.int cb), .val (.int (fl &&& (3 : Int32))), .val (.int (0 : Int32)), .val (.ref b595), .unset, .unset] [(.ref b595), (.int nb), (.ref b615), (.ref b615)]))
        refine own_st (fun u_ k_ => XS.iload X615.here hx rfl (hb hby at_125) rfl k_) ?_
        show own_Go p e below _ (T615.setTop (mkF m 127 #[.val (.int nb), .val (.int fl), .val (.int ca), .val (.int cb), .val (.int (fl &&& (3 : Int32))), .val (.int (0 : Int32)), .val (.ref b595), .unset, .unset] [(.int (0 : Int32)), (.ref b595), (.int nb), (.ref b615), (.ref b615)]))
        have O617 : Old Z n0 T601.heap := O603.keep K601 (allS g598 all0)
        have g616 : n0 ≤ b615 := Nat.le_trans (own_nl O617) (Nat.le_of_eq g615.symm)
        have O619 : Old Z n0 h615 := O617.ext E615
        obtain ⟨T618, v618, L618, X618, hQ618, st618⟩ := own_callN X615 hx hZ601 (y := own_y_244) rfl hown601 (own_w hw 34 rfl) (own_w hw 35 rfl) (own_w hw 33 rfl) (own_w hw 36 rfl) own_lm_258 (rmL0 l Z a0 hw [] wcs hS b615 nb ((.ref b595) : Value) h615 n0 O619 A615 g616 rfl F615_number F615_text F615_terminated) e615 own_pd_259 (a := b615) (argsL := [(.int nb), (.ref b595), (.int (0 : Int32))]) (rest := [(.ref b615)]) rfl rfl (g := (mkF m 127 #[.val (.int nb), .val (.int fl), .val (.int ca), .val (.int cb), .val (.int (fl &&& (3 : Int32))), .val (.int (0 : Int32)), .val (.ref b595), .unset, .unset] [(.int (0 : Int32)), (.ref b595), (.int nb), (.ref b615), (.ref b615)])) rfl (by rw [hml]; rfl) rfl (hb hby at_127) (W := 1) rfl (by decide) (by decide) (by decide) (by decide)
        obtain ⟨rfl, M618, K618, F620, F621⟩ := hQ618
        have N618 := Fr.app N601 M618
        refine own_st (fun u_ k_ => st618 u_ k_) ?_
        show own_Go p e below _ (T618.setTop (mkF m 130 #[.val (.int nb), .val (.int fl), .val (.int ca), .val (.int cb), .val (.int (fl &&& (3 : Int32))), .val (.int (0 : Int32)), .val (.ref b595), .unset, .unset] [(.ref b615)]))
        refine own_st (fun u_ k_ => XS.astore X618.here hx rfl (hb hby at_130) rfl rfl (l' := #[.val (.int nb), .val (.int fl), .val (.int ca), .val (.int cb), .val (.int (fl &&& (3 : Int32))), .val (.int (0 : Int32)), .val (.ref b595), .val (.ref b615), .unset]) rfl k_) ?_
        show own_Go p e below _ (T618.setTop (mkF m 132 #[.val (.int nb), .val (.int fl), .val (.int ca), .val (.int cb), .val (.int (fl &&& (3 : Int32))), .val (.int (0 : Int32)), .val (.ref b595), .val (.ref b615), .unset] []))
        refine own_st (fun u_ k_ => XS.iload X618.here hx rfl (hb hby at_132) rfl k_) ?_
        show own_Go p e below _ (T618.setTop (mkF m 134 #[.val (.int nb), .val (.int fl), .val (.int ca), .val (.int cb), .val (.int (fl &&& (3 : Int32))), .val (.int (0 : Int32)), .val (.ref b595), .val (.ref b615), .unset] [(.int (fl &&& (3 : Int32)))]))
        refine own_st (fun u_ k_ => XS.ifNo X618.here hx rfl (hb hby at_134) rfl (XT.i0_eq_f hc577) k_) ?_
        show own_Go p e below _ (T618.setTop (mkF m 137 #[.val (.int nb), .val (.int fl), .val (.int ca), .val (.int cb), .val (.int (fl &&& (3 : Int32))), .val (.int (0 : Int32)), .val (.ref b595), .val (.ref b615), .unset] []))
        refine own_st (fun u_ k_ => XS.iconst X618.here hx rfl (hb hby at_137) k_) ?_
        show own_Go p e below _ (T618.setTop (mkF m 138 #[.val (.int nb), .val (.int fl), .val (.int ca), .val (.int cb), .val (.int (fl &&& (3 : Int32))), .val (.int (0 : Int32)), .val (.ref b595), .val (.ref b615), .unset] [(.int (1 : Int32))]))
        refine own_st (fun u_ k_ => XS.goto X618.here hx rfl (pc0 := 138) (pc' := 142) rfl (hb hby at_138) (by decide) (by decide) k_) ?_
        show own_Go p e below _ (T618.setTop (mkF m 142 #[.val (.int nb), .val (.int fl), .val (.int ca), .val (.int cb), .val (.int (fl &&& (3 : Int32))), .val (.int (0 : Int32)), .val (.ref b595), .val (.ref b615), .unset] [(.int (1 : Int32))]))
        refine own_st (fun u_ k_ => XS.istore X618.here hx rfl (hb hby at_142) rfl (l' := #[.val (.int nb), .val (.int fl), .val (.int ca), .val (.int cb), .val (.int (fl &&& (3 : Int32))), .val (.int (0 : Int32)), .val (.ref b595), .val (.ref b615), .val (.int (1 : Int32))]) rfl k_) ?_
        show own_Go p e below _ (T618.setTop (mkF m 144 #[.val (.int nb), .val (.int fl), .val (.int ca), .val (.int cb), .val (.int (fl &&& (3 : Int32))), .val (.int (0 : Int32)), .val (.ref b595), .val (.ref b615), .val (.int (1 : Int32))] []))
        refine own_st (fun u_ k_ => XS.aload X618.here hx rfl (hb hby at_144) rfl rfl k_) ?_
        show own_Go p e below _ (T618.setTop (mkF m 146 #[.val (.int nb), .val (.int fl), .val (.int ca), .val (.int cb), .val (.int (fl &&& (3 : Int32))), .val (.int (0 : Int32)), .val (.ref b595), .val (.ref b615), .val (.int (1 : Int32))] [(.ref b615)]))
        have O623 : Old Z n0 T618.heap := O619.keep K618 (allS g616 all0)
        obtain ⟨T622, v622, L622, X622, hQ622, st622⟩ := own_callV X618 hx hZ601 (y := own_y_251) (z := own_y_251) hown601 (own_w hw 49 rfl) (own_w hw 50 rfl) (notFace_of_selects (args := #[]) (mvT hZ601 (own_w hw 52 rfl))) (own_w hw 52 rfl) (own_w hw 51 rfl) (own_w hw 33 rfl) (own_w hw 53 rfl) own_lm_258 (rmIR l Z a0 hw [] wcs hS b615 b595 T618.heap n0 O623 F621) rfl F620 own_pd_260 (argsL := []) (rest := []) rfl rfl (g := (mkF m 146 #[.val (.int nb), .val (.int fl), .val (.int ca), .val (.int cb), .val (.int (fl &&& (3 : Int32))), .val (.int (0 : Int32)), .val (.ref b595), .val (.ref b615), .val (.int (1 : Int32))] [(.ref b615)])) rfl (by rw [hml]; rfl) rfl (hb hby at_146) (W := 0) rfl (by decide) (by decide) (by decide) (by decide)
        obtain ⟨rfl, M622, e622⟩ := hQ622
        have N622 := Fr.app N618 M622
        refine own_st (fun u_ k_ => st622 u_ k_) ?_
        show own_Go p e below _ (T622.setTop (mkF m 149 #[.val (.int nb), .val (.int fl), .val (.int ca), .val (.int cb), .val (.int (fl &&& (3 : Int32))), .val (.int (0 : Int32)), .val (.ref b595), .val (.ref b615), .val (.int (1 : Int32))] [(.int (1 : Int32))]))
        refine own_st (fun u_ k_ => XS.iload X622.here hx rfl (hb hby at_149) rfl k_) ?_
        show own_Go p e below _ (T622.setTop (mkF m 151 #[.val (.int nb), .val (.int fl), .val (.int ca), .val (.int cb), .val (.int (fl &&& (3 : Int32))), .val (.int (0 : Int32)), .val (.ref b595), .val (.ref b615), .val (.int (1 : Int32))] [(.int (1 : Int32)), (.int (1 : Int32))]))
        refine own_st (fun u_ k_ => XS.icmpNo X622.here hx rfl (hb hby at_151) rfl (XT.ii_ne_f (by decide)) k_) ?_
        show own_Go p e below _ (T622.setTop (mkF m 154 #[.val (.int nb), .val (.int fl), .val (.int ca), .val (.int cb), .val (.int (fl &&& (3 : Int32))), .val (.int (0 : Int32)), .val (.ref b595), .val (.ref b615), .val (.int (1 : Int32))] []))
        refine own_st (fun u_ k_ => XS.aload X622.here hx rfl (hb hby at_154) rfl rfl k_) ?_
        show own_Go p e below _ (T622.setTop (mkF m 156 #[.val (.int nb), .val (.int fl), .val (.int ca), .val (.int cb), .val (.int (fl &&& (3 : Int32))), .val (.int (0 : Int32)), .val (.ref b595), .val (.ref b615), .val (.int (1 : Int32))] [(.ref b615)]))
        obtain ⟨T624, v624, L624, X624, hQ624, st624⟩ := own_callV X622 hx hZ601 (y := own_y_255) (z := own_y_255) hown601 (own_w hw 54 rfl) (own_w hw 55 rfl) (notFace_of_selects (args := #[]) (mvT hZ601 (own_w hw 57 rfl))) (own_w hw 57 rfl) (own_w hw 56 rfl) (own_w hw 33 rfl) (own_w hw 58 rfl) own_lm_258 (rmTR l Z a0 hw [] wcs hS b615 b595 T618.heap n0 O623 F621) e622 F620 own_pd_261 (argsL := []) (rest := []) rfl rfl (g := (mkF m 156 #[.val (.int nb), .val (.int fl), .val (.int ca), .val (.int cb), .val (.int (fl &&& (3 : Int32))), .val (.int (0 : Int32)), .val (.ref b595), .val (.ref b615), .val (.int (1 : Int32))] [(.ref b615)])) rfl (by rw [hml]; rfl) rfl (hb hby at_156) (W := 0) rfl (by decide) (by decide) (by decide) (by decide)
        obtain ⟨rfl, M624, e624⟩ := hQ624
        have N624 := Fr.app N622 M624
        refine own_st (fun u_ k_ => st624 u_ k_) ?_
        show own_Go p e below _ (T624.setTop (mkF m 159 #[.val (.int nb), .val (.int fl), .val (.int ca), .val (.int cb), .val (.int (fl &&& (3 : Int32))), .val (.int (0 : Int32)), .val (.ref b595), .val (.ref b615), .val (.int (1 : Int32))] [(.ref b595)]))
        refine own_st (fun u_ k_ => XS.ifnullNo X624.here hx rfl (hb hby at_159) rfl k_) ?_
        show own_Go p e below _ (T624.setTop (mkF m 162 #[.val (.int nb), .val (.int fl), .val (.int ca), .val (.int cb), .val (.int (fl &&& (3 : Int32))), .val (.int (0 : Int32)), .val (.ref b595), .val (.ref b615), .val (.int (1 : Int32))] []))
        refine own_st (fun u_ k_ => XS.iconst X624.here hx rfl (hb hby at_162) k_) ?_
        show own_Go p e below _ (T624.setTop (mkF m 163 #[.val (.int nb), .val (.int fl), .val (.int ca), .val (.int cb), .val (.int (fl &&& (3 : Int32))), .val (.int (0 : Int32)), .val (.ref b595), .val (.ref b615), .val (.int (1 : Int32))] [(.int (1 : Int32))]))
        refine own_st (fun u_ k_ => XS.goto X624.here hx rfl (pc0 := 163) (pc' := 167) rfl (hb hby at_163) (by decide) (by decide) k_) ?_
        show own_Go p e below _ (T624.setTop (mkF m 167 #[.val (.int nb), .val (.int fl), .val (.int ca), .val (.int cb), .val (.int (fl &&& (3 : Int32))), .val (.int (0 : Int32)), .val (.ref b595), .val (.ref b615), .val (.int (1 : Int32))] [(.int (1 : Int32))]))
        refine own_st (fun u_ k_ => XS.iload X624.here hx rfl (hb hby at_167) rfl k_) ?_
        show own_Go p e below _ (T624.setTop (mkF m 169 #[.val (.int nb), .val (.int fl), .val (.int ca), .val (.int cb), .val (.int (fl &&& (3 : Int32))), .val (.int (0 : Int32)), .val (.ref b595), .val (.ref b615), .val (.int (1 : Int32))] [(.int (1 : Int32)), (.int (1 : Int32))]))
        refine own_st (fun u_ k_ => XS.icmpNo X624.here hx rfl (hb hby at_169) rfl (XT.ii_ne_f (by decide)) k_) ?_
        show own_Go p e below _ (T624.setTop (mkF m 172 #[.val (.int nb), .val (.int fl), .val (.int ca), .val (.int cb), .val (.int (fl &&& (3 : Int32))), .val (.int (0 : Int32)), .val (.ref b595), .val (.ref b615), .val (.int (1 : Int32))] []))
        refine own_st (fun u_ k_ => XS.iconst X624.here hx rfl (hb hby at_172) k_) ?_
        show own_Go p e below _ (T624.setTop (mkF m 173 #[.val (.int nb), .val (.int fl), .val (.int ca), .val (.int cb), .val (.int (fl &&& (3 : Int32))), .val (.int (0 : Int32)), .val (.ref b595), .val (.ref b615), .val (.int (1 : Int32))] [(.int (1 : Int32))]))
        refine own_st (fun u_ k_ => XS.goto X624.here hx rfl (pc0 := 173) (pc' := 177) rfl (hb hby at_173) (by decide) (by decide) k_) ?_
        show own_Go p e below _ (T624.setTop (mkF m 177 #[.val (.int nb), .val (.int fl), .val (.int ca), .val (.int cb), .val (.int (fl &&& (3 : Int32))), .val (.int (0 : Int32)), .val (.ref b595), .val (.ref b615), .val (.int (1 : Int32))] [(.int (1 : Int32))]))
        have K625 : Keep h0 h595 [] := (Keep.refl h0 []).ext E595
        have K626 : Keep h0 h596 [] := K625.ext E596
        have z628 : h0.size ≤ b595 := Nat.le_trans (Nat.le_refl _) (Nat.le_of_eq g595.symm)
        have K627 : Keep h0 T601.heap [] := K626.trans K601 (allS (Or.inr z628) all0)
        have K629 : Keep h0 h615 [] := K627.ext E615
        have z631 : h0.size ≤ b615 := Nat.le_trans (Nat.le_trans (Nat.le_trans E595.1 E596.1) K601.1) (Nat.le_of_eq g615.symm)
        have K630 : Keep h0 T618.heap [] := K629.trans K618 (allS (Or.inr z631) all0)
        have R632 : CHr Z own_EL s.vm h0 T601.vm T601.heap := R608.trans hr601
        have R633 : CHr Z own_EL s.vm h0 T601.vm h615 := R632.trans (CHr.ext E615 R632.1)
        have sf_635 : Safe Z own_EL T601.vm T601.heap b615 := Safe.new (Nat.le_of_eq g615.symm)
        have sf_636 : Safe Z own_EL T601.vm h615 b615 := Safe.ext E615 R632.1 sf_635
        have R634 : CHr Z own_EL s.vm h0 T601.vm T618.heap := R633.trans (CHr.keep K618 (sfS sf_636 sf0) R633.1)
        exact own_retXH X624 Si601 (Nat.le_trans (Nat.le_refl _) (Nat.le_trans E615.1 K618.1)) e624 hZ601 (own_hEL hw) hs0 R634 hx hlk hret rfl (Or.inl ⟨rfl, by simp, _, rfl⟩) (hb hby at_177) (by decide) (by decide) (show Qrm0 Z wcs nb fl ca cb h0 n0 (some (.int (1 : Int32))) T624.heap _ from (by rw [e624]; exact ⟨rfl, N624, K630⟩))
      · refine own_st (fun u_ k_ => XS.icmpYes X0.here hx rfl (pc0 := 32) (pc' := 50) rfl (hb hby at_32) rfl (XT.ii_ne_t hc594) (by decide) (by decide) k_) ?_
        show own_Go p e below _ (s₁.setTop (mkF m 50 #[.val (.int nb), .val (.int fl), .val (.int ca), .val (.int cb), .val (.int (fl &&& (3 : Int32))), .val (.int (0 : Int32)), .unset, .unset, .unset] []))
        refine own_st (fun u_ k_ => XS.iload X0.here hx rfl (hb hby at_50) rfl k_) ?_
        show own_Go p e below _ (s₁.setTop (mkF m 52 #[.val (.int nb), .val (.int fl), .val (.int ca), .val (.int cb), .val (.int (fl &&& (3 : Int32))), .val (.int (0 : Int32)), .unset, .unset, .unset] [(.int (fl &&& (3 : Int32)))]))
        refine own_st (fun u_ k_ => XS.iconst X0.here hx rfl (hb hby at_52) k_) ?_
        show own_Go p e below _ (s₁.setTop (mkF m 53 #[.val (.int nb), .val (.int fl), .val (.int ca), .val (.int cb), .val (.int (fl &&& (3 : Int32))), .val (.int (0 : Int32)), .unset, .unset, .unset] [(.int (2 : Int32)), (.int (fl &&& (3 : Int32)))]))
        by_cases hc637 : (fl &&& (3 : Int32)) = (2 : Int32)
        · refine own_st (fun u_ k_ => XS.icmpNo X0.here hx rfl (hb hby at_53) rfl (XT.ii_ne_f hc637) k_) ?_
          show own_Go p e below _ (s₁.setTop (mkF m 56 #[.val (.int nb), .val (.int fl), .val (.int ca), .val (.int cb), .val (.int (fl &&& (3 : Int32))), .val (.int (0 : Int32)), .unset, .unset, .unset] []))
          refine own_st (fun u_ k_ => XS.iconst X0.here hx rfl (hb hby at_56) k_) ?_
          show own_Go p e below _ (s₁.setTop (mkF m 57 #[.val (.int nb), .val (.int fl), .val (.int ca), .val (.int cb), .val (.int (fl &&& (3 : Int32))), .val (.int (0 : Int32)), .unset, .unset, .unset] [(.int (1 : Int32))]))
          obtain ⟨T638, h638, k638, X638, e638, E638, A638, Y638, st638⟩ := newPE X0 hx hZ (own_w hw 0 rfl) e0 (g := (mkF m 57 #[.val (.int nb), .val (.int fl), .val (.int ca), .val (.int cb), .val (.int (fl &&& (3 : Int32))), .val (.int (0 : Int32)), .unset, .unset, .unset] [(.int (1 : Int32))])) rfl (hb hby at_57) rfl (by decide) (cap := 1) (by decide) (by decide) (by decide) (by decide) (ad := "[C") own_lm_262
          obtain ⟨b638, g638⟩ : ∃ z, z = h0.size := ⟨_, rfl⟩
          rw [← g638] at A638 Y638 st638
          have V638 : Arv Z h638 b638 k638 .char (1 : Int32) [(.int (0 : Int32))] (.int (0 : Int32)) := (Arv.new A638 (by decide)).pad (pad_rep [] (.int (0 : Int32)) 1)
          refine own_st (fun u_ k_ => st638 u_ k_) ?_
          show own_Go p e below _ (T638.setTop (mkF m 59 #[.val (.int nb), .val (.int fl), .val (.int ca), .val (.int cb), .val (.int (fl &&& (3 : Int32))), .val (.int (0 : Int32)), .unset, .unset, .unset] [(.ref b638)]))
          refine own_st (fun u_ k_ => XS.astore X638.here hx rfl (hb hby at_59) rfl rfl (l' := #[.val (.int nb), .val (.int fl), .val (.int ca), .val (.int cb), .val (.int (fl &&& (3 : Int32))), .val (.int (0 : Int32)), .unset, .val (.ref b638), .unset]) rfl k_) ?_
          show own_Go p e below _ (T638.setTop (mkF m 61 #[.val (.int nb), .val (.int fl), .val (.int ca), .val (.int cb), .val (.int (fl &&& (3 : Int32))), .val (.int (0 : Int32)), .unset, .val (.ref b638), .unset] []))
          refine own_st (fun u_ k_ => XS.aload X638.here hx rfl (hb hby at_61) rfl rfl k_) ?_
          show own_Go p e below _ (T638.setTop (mkF m 63 #[.val (.int nb), .val (.int fl), .val (.int ca), .val (.int cb), .val (.int (fl &&& (3 : Int32))), .val (.int (0 : Int32)), .unset, .val (.ref b638), .unset] [(.ref b638)]))
          refine own_st (fun u_ k_ => XS.iconst X638.here hx rfl (hb hby at_63) k_) ?_
          show own_Go p e below _ (T638.setTop (mkF m 64 #[.val (.int nb), .val (.int fl), .val (.int ca), .val (.int cb), .val (.int (fl &&& (3 : Int32))), .val (.int (0 : Int32)), .unset, .val (.ref b638), .unset] [(.int (0 : Int32)), (.ref b638)]))
          refine own_st (fun u_ k_ => XS.iloadN X638.here hx rfl (hb hby at_64) rfl k_) ?_
          show own_Go p e below _ (T638.setTop (mkF m 65 #[.val (.int nb), .val (.int fl), .val (.int ca), .val (.int cb), .val (.int (fl &&& (3 : Int32))), .val (.int (0 : Int32)), .unset, .val (.ref b638), .unset] [(.int ca), (.int (0 : Int32)), (.ref b638)]))
          refine own_st (X638.ldcInt hx hown (mvT hZ (own_w hw 1 rfl)) (g := (mkF m 65 #[.val (.int nb), .val (.int fl), .val (.int ca), .val (.int cb), .val (.int (fl &&& (3 : Int32))), .val (.int (0 : Int32)), .unset, .val (.ref b638), .unset] [(.int ca), (.int (0 : Int32)), (.ref b638)])) rfl (hb hby at_65)) ?_
          show own_Go p e below _ (T638.setTop (mkF m 67 #[.val (.int nb), .val (.int fl), .val (.int ca), .val (.int cb), .val (.int (fl &&& (3 : Int32))), .val (.int (0 : Int32)), .unset, .val (.ref b638), .unset] [(.int (65535 : Int32)), (.int ca), (.int (0 : Int32)), (.ref b638)]))
          refine own_st (fun u_ k_ => XS.iand X638.here hx rfl (hb hby at_67) rfl k_) ?_
          show own_Go p e below _ (T638.setTop (mkF m 68 #[.val (.int nb), .val (.int fl), .val (.int ca), .val (.int cb), .val (.int (fl &&& (3 : Int32))), .val (.int (0 : Int32)), .unset, .val (.ref b638), .unset] [(.int (ca &&& (65535 : Int32))), (.int (0 : Int32)), (.ref b638)]))
          refine own_st (fun u_ k_ => XS.i2c X638.here hx rfl (hb hby at_68) rfl k_) ?_
          show own_Go p e below _ (T638.setTop (mkF m 69 #[.val (.int nb), .val (.int fl), .val (.int ca), .val (.int cb), .val (.int (fl &&& (3 : Int32))), .val (.int (0 : Int32)), .unset, .val (.ref b638), .unset] [(.int ((ca &&& (65535 : Int32)).toUInt32.toUInt16.toUInt32.toInt32)), (.int (0 : Int32)), (.ref b638)]))
          obtain ⟨cl639, Ar639, q639, S639, N639, H639, G639⟩ := id V638
          have hi639 : ¬ ((0 : Int32) < 0 ∨ cl639.slots.size ≤ ((0 : Int32)).toNatClampNeg) := inb_of S639 ⟨by decide, by decide⟩
          obtain ⟨T640, h640, X640, e640, W640, st640⟩ := stC X638 hx hZ e638 Ar639 (j := (0 : Int32)) hi639 (g := (mkF m 69 #[.val (.int nb), .val (.int fl), .val (.int ca), .val (.int cb), .val (.int (fl &&& (3 : Int32))), .val (.int (0 : Int32)), .unset, .val (.ref b638), .unset] [(.int ((ca &&& (65535 : Int32)).toUInt32.toUInt16.toUInt32.toInt32)), (.int (0 : Int32)), (.ref b638)])) rfl rfl (hb hby at_69)
          have g641 : n0 ≤ b638 := Nat.le_trans (own_nl O0) (Nat.le_of_eq g638.symm)
          have N640 := Fr.snoc X640 N0 g641
          have V640 : Arv Z h640 b638 k638 .char (1 : Int32) [(.int (nar .char ((ca &&& (65535 : Int32)).toUInt32.toUInt16.toUInt32.toInt32)))] (.int (0 : Int32)) := Arv.set Ar639 q639 S639 N639 H639 G639 (fits_nar_char _) W640 0 rfl (Nat.le_of_ble_eq_true rfl)
          refine own_st (fun u_ k_ => st640 u_ k_) ?_
          show own_Go p e below _ (T640.setTop (mkF m 70 #[.val (.int nb), .val (.int fl), .val (.int ca), .val (.int cb), .val (.int (fl &&& (3 : Int32))), .val (.int (0 : Int32)), .unset, .val (.ref b638), .unset] []))
          obtain ⟨T642, h642, X642, e642, E642, A642, D642, U642, st642⟩ := newO X640 hx hZ hown (own_w hw 2 rfl) (own_w hw 3 rfl) (own_w hw 4 rfl) e640 (g := (mkF m 70 #[.val (.int nb), .val (.int fl), .val (.int ca), .val (.int cb), .val (.int (fl &&& (3 : Int32))), .val (.int (0 : Int32)), .unset, .val (.ref b638), .unset] [])) rfl (hb hby at_70) (by decide) (by decide)
          obtain ⟨b642, g642⟩ : ∃ z, z = h640.size := ⟨_, rfl⟩
          rw [← g642] at A642 D642 U642 st642
          have F642_coder : Fld Z h642 b642 "java/lang/String" "coder" "B" (.int (0 : Int32)) := D642 (Or.inr (own_w hw 28 rfl)) (ty := .byte) own_lm_162
          have F642_value : Fld Z h642 b642 "java/lang/String" "value" "[B" .null := D642 (Or.inr (own_w hw 30 rfl)) (ty := (.array .byte)) own_lm_167
          refine own_st (fun u_ k_ => st642 u_ k_) ?_
          show own_Go p e below _ (T642.setTop (mkF m 73 #[.val (.int nb), .val (.int fl), .val (.int ca), .val (.int cb), .val (.int (fl &&& (3 : Int32))), .val (.int (0 : Int32)), .unset, .val (.ref b638), .unset] [(.ref b642)]))
          refine own_st (fun u_ k_ => XS.dup X642.here hx rfl (hb hby at_73) rfl rfl k_) ?_
          show own_Go p e below _ (T642.setTop (mkF m 74 #[.val (.int nb), .val (.int fl), .val (.int ca), .val (.int cb), .val (.int (fl &&& (3 : Int32))), .val (.int (0 : Int32)), .unset, .val (.ref b638), .unset] [(.ref b642), (.ref b642)]))
          refine own_st (fun u_ k_ => XS.aload X642.here hx rfl (hb hby at_74) rfl rfl k_) ?_
          show own_Go p e below _ (T642.setTop (mkF m 76 #[.val (.int nb), .val (.int fl), .val (.int ca), .val (.int cb), .val (.int (fl &&& (3 : Int32))), .val (.int (0 : Int32)), .unset, .val (.ref b638), .unset] [(.ref b638), (.ref b642), (.ref b642)]))
          have F643 := (Exa.ext E642 (Exa.wr W640 Y638))
          have O645 : Old Z n0 h638 := O0.ext E638
          have O646 : Old Z n0 h640 := O645.wr W640 g641
          have g644 : n0 ≤ b642 := Nat.le_trans (own_nl O646) (Nat.le_of_eq g642.symm)
          have F647 := (V640.ext E642)
          have O649 : Old Z n0 h642 := O646.ext E642
          obtain ⟨T648, v648, L648, X648, hQ648, st648⟩ := own_callN X642 hx hZ (y := own_y_198) rfl hown (own_w hw 5 rfl) (own_w hw 6 rfl) (own_w hw 4 rfl) (own_w hw 7 rfl) own_lm_181 (rmSJ_1 l Z a0 hw [] wcs hS b642 b638 k638 (nar .char ((ca &&& (65535 : Int32)).toUInt32.toUInt16.toUInt32.toInt32)) h642 n0 O649 A642 F643 g644 F642_value F642_coder F647 (own_c16 _)) e642 own_pd_263 (a := b642) (argsL := [(.ref b638)]) (rest := [(.ref b642)]) rfl rfl (g := (mkF m 76 #[.val (.int nb), .val (.int fl), .val (.int ca), .val (.int cb), .val (.int (fl &&& (3 : Int32))), .val (.int (0 : Int32)), .unset, .val (.ref b638), .unset] [(.ref b638), (.ref b642), (.ref b642)])) rfl (by rw [hml]; rfl) rfl (hb hby at_76) (W := 1) rfl (by decide) (by decide) (by decide) (by decide)
          obtain ⟨r_650, kr_651, cd_652, ln_653, us_654, rfl, M648, K648, z655, F656, F657, F658, F659, F660, pl_661⟩ := hQ648
          have N648 := Fr.app N640 M648
          refine own_st (fun u_ k_ => st648 u_ k_) ?_
          show own_Go p e below _ (T648.setTop (mkF m 79 #[.val (.int nb), .val (.int fl), .val (.int ca), .val (.int cb), .val (.int (fl &&& (3 : Int32))), .val (.int (0 : Int32)), .unset, .val (.ref b638), .unset] [(.ref b642)]))
          refine own_st (fun u_ k_ => XS.astore X648.here hx rfl (hb hby at_79) rfl rfl (l' := #[.val (.int nb), .val (.int fl), .val (.int ca), .val (.int cb), .val (.int (fl &&& (3 : Int32))), .val (.int (0 : Int32)), .val (.ref b642), .val (.ref b638), .unset]) rfl k_) ?_
          show own_Go p e below _ (T648.setTop (mkF m 81 #[.val (.int nb), .val (.int fl), .val (.int ca), .val (.int cb), .val (.int (fl &&& (3 : Int32))), .val (.int (0 : Int32)), .val (.ref b642), .val (.ref b638), .unset] []))
          refine own_st (fun u_ k_ => XS.goto X648.here hx rfl (pc0 := 81) (pc' := 118) rfl (hb hby at_81) (by decide) (by decide) k_) ?_
          show own_Go p e below _ (T648.setTop (mkF m 118 #[.val (.int nb), .val (.int fl), .val (.int ca), .val (.int cb), .val (.int (fl &&& (3 : Int32))), .val (.int (0 : Int32)), .val (.ref b642), .val (.ref b638), .unset] []))
          obtain ⟨T662, h662, X662, e662, E662, A662, D662, U662, st662⟩ := newO X648 hx hZ hown (own_w hw 31 rfl) (own_w hw 32 rfl) (own_w hw 33 rfl) rfl (g := (mkF m 118 #[.val (.int nb), .val (.int fl), .val (.int ca), .val (.int cb), .val (.int (fl &&& (3 : Int32))), .val (.int (0 : Int32)), .val (.ref b642), .val (.ref b638), .unset] [])) rfl (hb hby at_118) (by decide) (by decide)
          obtain ⟨b662, g662⟩ : ∃ z, z = T648.heap.size := ⟨_, rfl⟩
          rw [← g662] at A662 D662 U662 st662
          have F662_number : Fld Z h662 b662 "com/example/spulenwerk/spulenwerk/jsonlines/LineReader$Line" "number" "I" (.int (0 : Int32)) := D662 (Or.inr (own_w hw 44 rfl)) (ty := .int) own_lm_226
          have F662_text : Fld Z h662 b662 "com/example/spulenwerk/spulenwerk/jsonlines/LineReader$Line" "text" "Ljava/lang/String;" .null := D662 (Or.inr (own_w hw 46 rfl)) (ty := (.object "java/lang/String")) own_lm_231
          have F662_terminated : Fld Z h662 b662 "com/example/spulenwerk/spulenwerk/jsonlines/LineReader$Line" "terminated" "Z" (.int (0 : Int32)) := D662 (Or.inr (own_w hw 48 rfl)) (ty := .boolean) own_lm_237
          refine own_st (fun u_ k_ => st662 u_ k_) ?_
          show own_Go p e below _ (T662.setTop (mkF m 121 #[.val (.int nb), .val (.int fl), .val (.int ca), .val (.int cb), .val (.int (fl &&& (3 : Int32))), .val (.int (0 : Int32)), .val (.ref b642), .val (.ref b638), .unset] [(.ref b662)]))
          refine own_st (fun u_ k_ => XS.dup X662.here hx rfl (hb hby at_121) rfl rfl k_) ?_
          show own_Go p e below _ (T662.setTop (mkF m 122 #[.val (.int nb), .val (.int fl), .val (.int ca), .val (.int cb), .val (.int (fl &&& (3 : Int32))), .val (.int (0 : Int32)), .val (.ref b642), .val (.ref b638), .unset] [(.ref b662), (.ref b662)]))
          refine own_st (fun u_ k_ => XS.iloadN X662.here hx rfl (hb hby at_122) rfl k_) ?_
          show own_Go p e below _ (T662.setTop (mkF m 123 #[.val (.int nb), .val (.int fl), .val (.int ca), .val (.int cb), .val (.int (fl &&& (3 : Int32))), .val (.int (0 : Int32)), .val (.ref b642), .val (.ref b638), .unset] [(.int nb), (.ref b662), (.ref b662)]))
          refine own_st (fun u_ k_ => XS.aload X662.here hx rfl (hb hby at_123) rfl rfl k_) ?_
          show own_Go p e below _ (T662.setTop (mkF m 125 #[.val (.int nb), .val (.int fl), .val (.int ca), .val (.int cb), .val (.int (fl &&& (3 : Int32))), .val (.int (0 : Int32)), .val (.ref b642), .val (.ref b638), .unset] [(.ref b642), (.int nb), (.ref b662), (.ref b662)]))
          refine own_st (fun u_ k_ => XS.iload X662.here hx rfl (hb hby at_125) rfl k_) ?_
          show own_Go p e below _ (T662.setTop (mkF m 127 #[.val (.int nb), .val (.int fl), .val (.int ca), .val (.int cb), .val (.int (fl &&& (3 : Int32))), .val (.int (0 : Int32)), .val (.ref b642), .val (.ref b638), .unset] [(.int (0 : Int32)), (.ref b642), (.int nb), (.ref b662), (.ref b662)]))
          have O664 : Old Z n0 T648.heap := O649.keep K648 (allS g644 all0)
          have g663 : n0 ≤ b662 := Nat.le_trans (own_nl O664) (Nat.le_of_eq g662.symm)
          have O666 : Old Z n0 h662 := O664.ext E662
          obtain ⟨T665, v665, L665, X665, hQ665, st665⟩ := own_callN X662 hx hZ (y := own_y_244) rfl hown (own_w hw 34 rfl) (own_w hw 35 rfl) (own_w hw 33 rfl) (own_w hw 36 rfl) own_lm_258 (rmL0 l Z a0 hw [] wcs hS b662 nb ((.ref b642) : Value) h662 n0 O666 A662 g663 rfl F662_number F662_text F662_terminated) e662 own_pd_259 (a := b662) (argsL := [(.int nb), (.ref b642), (.int (0 : Int32))]) (rest := [(.ref b662)]) rfl rfl (g := (mkF m 127 #[.val (.int nb), .val (.int fl), .val (.int ca), .val (.int cb), .val (.int (fl &&& (3 : Int32))), .val (.int (0 : Int32)), .val (.ref b642), .val (.ref b638), .unset] [(.int (0 : Int32)), (.ref b642), (.int nb), (.ref b662), (.ref b662)])) rfl (by rw [hml]; rfl) rfl (hb hby at_127) (W := 1) rfl (by decide) (by decide) (by decide) (by decide)
          obtain ⟨rfl, M665, K665, F667, F668⟩ := hQ665
          have N665 := Fr.app N648 M665
          refine own_st (fun u_ k_ => st665 u_ k_) ?_
          show own_Go p e below _ (T665.setTop (mkF m 130 #[.val (.int nb), .val (.int fl), .val (.int ca), .val (.int cb), .val (.int (fl &&& (3 : Int32))), .val (.int (0 : Int32)), .val (.ref b642), .val (.ref b638), .unset] [(.ref b662)]))
          refine own_st (fun u_ k_ => XS.astore X665.here hx rfl (hb hby at_130) rfl rfl (l' := #[.val (.int nb), .val (.int fl), .val (.int ca), .val (.int cb), .val (.int (fl &&& (3 : Int32))), .val (.int (0 : Int32)), .val (.ref b642), .val (.ref b662), .unset]) rfl k_) ?_
          show own_Go p e below _ (T665.setTop (mkF m 132 #[.val (.int nb), .val (.int fl), .val (.int ca), .val (.int cb), .val (.int (fl &&& (3 : Int32))), .val (.int (0 : Int32)), .val (.ref b642), .val (.ref b662), .unset] []))
          refine own_st (fun u_ k_ => XS.iload X665.here hx rfl (hb hby at_132) rfl k_) ?_
          show own_Go p e below _ (T665.setTop (mkF m 134 #[.val (.int nb), .val (.int fl), .val (.int ca), .val (.int cb), .val (.int (fl &&& (3 : Int32))), .val (.int (0 : Int32)), .val (.ref b642), .val (.ref b662), .unset] [(.int (fl &&& (3 : Int32)))]))
          refine own_st (fun u_ k_ => XS.ifNo X665.here hx rfl (hb hby at_134) rfl (XT.i0_eq_f hc577) k_) ?_
          show own_Go p e below _ (T665.setTop (mkF m 137 #[.val (.int nb), .val (.int fl), .val (.int ca), .val (.int cb), .val (.int (fl &&& (3 : Int32))), .val (.int (0 : Int32)), .val (.ref b642), .val (.ref b662), .unset] []))
          refine own_st (fun u_ k_ => XS.iconst X665.here hx rfl (hb hby at_137) k_) ?_
          show own_Go p e below _ (T665.setTop (mkF m 138 #[.val (.int nb), .val (.int fl), .val (.int ca), .val (.int cb), .val (.int (fl &&& (3 : Int32))), .val (.int (0 : Int32)), .val (.ref b642), .val (.ref b662), .unset] [(.int (1 : Int32))]))
          refine own_st (fun u_ k_ => XS.goto X665.here hx rfl (pc0 := 138) (pc' := 142) rfl (hb hby at_138) (by decide) (by decide) k_) ?_
          show own_Go p e below _ (T665.setTop (mkF m 142 #[.val (.int nb), .val (.int fl), .val (.int ca), .val (.int cb), .val (.int (fl &&& (3 : Int32))), .val (.int (0 : Int32)), .val (.ref b642), .val (.ref b662), .unset] [(.int (1 : Int32))]))
          refine own_st (fun u_ k_ => XS.istore X665.here hx rfl (hb hby at_142) rfl (l' := #[.val (.int nb), .val (.int fl), .val (.int ca), .val (.int cb), .val (.int (fl &&& (3 : Int32))), .val (.int (0 : Int32)), .val (.ref b642), .val (.ref b662), .val (.int (1 : Int32))]) rfl k_) ?_
          show own_Go p e below _ (T665.setTop (mkF m 144 #[.val (.int nb), .val (.int fl), .val (.int ca), .val (.int cb), .val (.int (fl &&& (3 : Int32))), .val (.int (0 : Int32)), .val (.ref b642), .val (.ref b662), .val (.int (1 : Int32))] []))
          refine own_st (fun u_ k_ => XS.aload X665.here hx rfl (hb hby at_144) rfl rfl k_) ?_
          show own_Go p e below _ (T665.setTop (mkF m 146 #[.val (.int nb), .val (.int fl), .val (.int ca), .val (.int cb), .val (.int (fl &&& (3 : Int32))), .val (.int (0 : Int32)), .val (.ref b642), .val (.ref b662), .val (.int (1 : Int32))] [(.ref b662)]))
          have O670 : Old Z n0 T665.heap := O666.keep K665 (allS g663 all0)
          obtain ⟨T669, v669, L669, X669, hQ669, st669⟩ := own_callV X665 hx hZ (y := own_y_251) (z := own_y_251) hown (own_w hw 49 rfl) (own_w hw 50 rfl) (notFace_of_selects (args := #[]) (mvT hZ (own_w hw 52 rfl))) (own_w hw 52 rfl) (own_w hw 51 rfl) (own_w hw 33 rfl) (own_w hw 53 rfl) own_lm_258 (rmIR l Z a0 hw [] wcs hS b662 b642 T665.heap n0 O670 F668) rfl F667 own_pd_260 (argsL := []) (rest := []) rfl rfl (g := (mkF m 146 #[.val (.int nb), .val (.int fl), .val (.int ca), .val (.int cb), .val (.int (fl &&& (3 : Int32))), .val (.int (0 : Int32)), .val (.ref b642), .val (.ref b662), .val (.int (1 : Int32))] [(.ref b662)])) rfl (by rw [hml]; rfl) rfl (hb hby at_146) (W := 0) rfl (by decide) (by decide) (by decide) (by decide)
          obtain ⟨rfl, M669, e669⟩ := hQ669
          have N669 := Fr.app N665 M669
          refine own_st (fun u_ k_ => st669 u_ k_) ?_
          show own_Go p e below _ (T669.setTop (mkF m 149 #[.val (.int nb), .val (.int fl), .val (.int ca), .val (.int cb), .val (.int (fl &&& (3 : Int32))), .val (.int (0 : Int32)), .val (.ref b642), .val (.ref b662), .val (.int (1 : Int32))] [(.int (1 : Int32))]))
          refine own_st (fun u_ k_ => XS.iload X669.here hx rfl (hb hby at_149) rfl k_) ?_
          show own_Go p e below _ (T669.setTop (mkF m 151 #[.val (.int nb), .val (.int fl), .val (.int ca), .val (.int cb), .val (.int (fl &&& (3 : Int32))), .val (.int (0 : Int32)), .val (.ref b642), .val (.ref b662), .val (.int (1 : Int32))] [(.int (1 : Int32)), (.int (1 : Int32))]))
          refine own_st (fun u_ k_ => XS.icmpNo X669.here hx rfl (hb hby at_151) rfl (XT.ii_ne_f (by decide)) k_) ?_
          show own_Go p e below _ (T669.setTop (mkF m 154 #[.val (.int nb), .val (.int fl), .val (.int ca), .val (.int cb), .val (.int (fl &&& (3 : Int32))), .val (.int (0 : Int32)), .val (.ref b642), .val (.ref b662), .val (.int (1 : Int32))] []))
          refine own_st (fun u_ k_ => XS.aload X669.here hx rfl (hb hby at_154) rfl rfl k_) ?_
          show own_Go p e below _ (T669.setTop (mkF m 156 #[.val (.int nb), .val (.int fl), .val (.int ca), .val (.int cb), .val (.int (fl &&& (3 : Int32))), .val (.int (0 : Int32)), .val (.ref b642), .val (.ref b662), .val (.int (1 : Int32))] [(.ref b662)]))
          obtain ⟨T671, v671, L671, X671, hQ671, st671⟩ := own_callV X669 hx hZ (y := own_y_255) (z := own_y_255) hown (own_w hw 54 rfl) (own_w hw 55 rfl) (notFace_of_selects (args := #[]) (mvT hZ (own_w hw 57 rfl))) (own_w hw 57 rfl) (own_w hw 56 rfl) (own_w hw 33 rfl) (own_w hw 58 rfl) own_lm_258 (rmTR l Z a0 hw [] wcs hS b662 b642 T665.heap n0 O670 F668) e669 F667 own_pd_261 (argsL := []) (rest := []) rfl rfl (g := (mkF m 156 #[.val (.int nb), .val (.int fl), .val (.int ca), .val (.int cb), .val (.int (fl &&& (3 : Int32))), .val (.int (0 : Int32)), .val (.ref b642), .val (.ref b662), .val (.int (1 : Int32))] [(.ref b662)])) rfl (by rw [hml]; rfl) rfl (hb hby at_156) (W := 0) rfl (by decide) (by decide) (by decide) (by decide)
          obtain ⟨rfl, M671, e671⟩ := hQ671
          have N671 := Fr.app N669 M671
          refine own_st (fun u_ k_ => st671 u_ k_) ?_
          show own_Go p e below _ (T671.setTop (mkF m 159 #[.val (.int nb), .val (.int fl), .val (.int ca), .val (.int cb), .val (.int (fl &&& (3 : Int32))), .val (.int (0 : Int32)), .val (.ref b642), .val (.ref b662), .val (.int (1 : Int32))] [(.ref b642)]))
          refine own_st (fun u_ k_ => XS.ifnullNo X671.here hx rfl (hb hby at_159) rfl k_) ?_
          show own_Go p e below _ (T671.setTop (mkF m 162 #[.val (.int nb), .val (.int fl), .val (.int ca), .val (.int cb), .val (.int (fl &&& (3 : Int32))), .val (.int (0 : Int32)), .val (.ref b642), .val (.ref b662), .val (.int (1 : Int32))] []))
          refine own_st (fun u_ k_ => XS.iconst X671.here hx rfl (hb hby at_162) k_) ?_
          show own_Go p e below _ (T671.setTop (mkF m 163 #[.val (.int nb), .val (.int fl), .val (.int ca), .val (.int cb), .val (.int (fl &&& (3 : Int32))), .val (.int (0 : Int32)), .val (.ref b642), .val (.ref b662), .val (.int (1 : Int32))] [(.int (1 : Int32))]))
          refine own_st (fun u_ k_ => XS.goto X671.here hx rfl (pc0 := 163) (pc' := 167) rfl (hb hby at_163) (by decide) (by decide) k_) ?_
          show own_Go p e below _ (T671.setTop (mkF m 167 #[.val (.int nb), .val (.int fl), .val (.int ca), .val (.int cb), .val (.int (fl &&& (3 : Int32))), .val (.int (0 : Int32)), .val (.ref b642), .val (.ref b662), .val (.int (1 : Int32))] [(.int (1 : Int32))]))
          refine own_st (fun u_ k_ => XS.iload X671.here hx rfl (hb hby at_167) rfl k_) ?_
          show own_Go p e below _ (T671.setTop (mkF m 169 #[.val (.int nb), .val (.int fl), .val (.int ca), .val (.int cb), .val (.int (fl &&& (3 : Int32))), .val (.int (0 : Int32)), .val (.ref b642), .val (.ref b662), .val (.int (1 : Int32))] [(.int (1 : Int32)), (.int (1 : Int32))]))
          refine own_st (fun u_ k_ => XS.icmpNo X671.here hx rfl (hb hby at_169) rfl (XT.ii_ne_f (by decide)) k_) ?_
          show own_Go p e below _ (T671.setTop (mkF m 172 #[.val (.int nb), .val (.int fl), .val (.int ca), .val (.int cb), .val (.int (fl &&& (3 : Int32))), .val (.int (0 : Int32)), .val (.ref b642), .val (.ref b662), .val (.int (1 : Int32))] []))
          refine own_st (fun u_ k_ => XS.iconst X671.here hx rfl (hb hby at_172) k_) ?_
          show own_Go p e below _ (T671.setTop (mkF m 173 #[.val (.int nb), .val (.int fl), .val (.int ca), .val (.int cb), .val (.int (fl &&& (3 : Int32))), .val (.int (0 : Int32)), .val (.ref b642), .val (.ref b662), .val (.int (1 : Int32))] [(.int (1 : Int32))]))
          refine own_st (fun u_ k_ => XS.goto X671.here hx rfl (pc0 := 173) (pc' := 177) rfl (hb hby at_173) (by decide) (by decide) k_) ?_
          show own_Go p e below _ (T671.setTop (mkF m 177 #[.val (.int nb), .val (.int fl), .val (.int ca), .val (.int cb), .val (.int (fl &&& (3 : Int32))), .val (.int (0 : Int32)), .val (.ref b642), .val (.ref b662), .val (.int (1 : Int32))] [(.int (1 : Int32))]))
          have K672 : Keep h0 h638 [] := (Keep.refl h0 []).ext E638
          have z674 : h0.size ≤ b638 := Nat.le_trans (Nat.le_refl _) (Nat.le_of_eq g638.symm)
          have K673 : Keep h0 h640 [] := K672.wr W640 (Or.inr z674)
          have K675 : Keep h0 h642 [] := K673.ext E642
          have z677 : h0.size ≤ b642 := Nat.le_trans (Nat.le_trans E638.1 (Nat.le_of_eq W640.size.symm)) (Nat.le_of_eq g642.symm)
          have K676 : Keep h0 T648.heap [] := K675.trans K648 (allS (Or.inr z677) all0)
          have K678 : Keep h0 h662 [] := K676.ext E662
          have z680 : h0.size ≤ b662 := Nat.le_trans (Nat.le_trans (Nat.le_trans (Nat.le_trans E638.1 (Nat.le_of_eq W640.size.symm)) E642.1) K648.1) (Nat.le_of_eq g662.symm)
          have K679 : Keep h0 T665.heap [] := K678.trans K665 (allS (Or.inr z680) all0)
          have R681 : CHr Z own_EL s.vm h0 s.vm h638 := R0.trans (CHr.ext E638 R0.1)
          have sf_683 : Safe Z own_EL s.vm h638 b638 := Safe.exa hZ_0.alike Y638 own_lm_264 own_lm_202
          have R682 : CHr Z own_EL s.vm h0 s.vm h640 := R681.trans (CHr.wr W640 sf_683 R681.1)
          have R684 : CHr Z own_EL s.vm h0 s.vm h642 := R682.trans (CHr.ext E642 R682.1)
          have sf_686 : Safe Z own_EL s.vm h640 b642 := Safe.new (Nat.le_of_eq g642.symm)
          have sf_687 : Safe Z own_EL s.vm h642 b642 := Safe.ext E642 R682.1 sf_686
          have R685 : CHr Z own_EL s.vm h0 s.vm T648.heap := R684.trans (CHr.keep K648 (sfS sf_687 sf0) R684.1)
          have R688 : CHr Z own_EL s.vm h0 s.vm h662 := R685.trans (CHr.ext E662 R685.1)
          have sf_690 : Safe Z own_EL s.vm T648.heap b662 := Safe.new (Nat.le_of_eq g662.symm)
          have sf_691 : Safe Z own_EL s.vm h662 b662 := Safe.ext E662 R685.1 sf_690
          have R689 : CHr Z own_EL s.vm h0 s.vm T665.heap := R688.trans (CHr.keep K665 (sfS sf_691 sf0) R688.1)
          exact own_retXH X671 hSi0 (Nat.le_trans (Nat.zero_le _) (Nat.le_trans (Nat.le_trans (Nat.le_trans (Nat.le_trans (Nat.le_trans E638.1 (Nat.le_of_eq W640.size.symm)) E642.1) K648.1) E662.1) K665.1)) e671 hZ (own_hEL hw) hs0 R689 hx hlk hret rfl (Or.inl ⟨rfl, by simp, _, rfl⟩) (hb hby at_177) (by decide) (by decide) (show Qrm0 Z wcs nb fl ca cb h0 n0 (some (.int (1 : Int32))) T671.heap _ from (by rw [e671]; exact ⟨rfl, N671, K679⟩))
        · refine own_st (fun u_ k_ => XS.icmpYes X0.here hx rfl (pc0 := 53) (pc' := 84) rfl (hb hby at_53) rfl (XT.ii_ne_t hc637) (by decide) (by decide) k_) ?_
          show own_Go p e below _ (s₁.setTop (mkF m 84 #[.val (.int nb), .val (.int fl), .val (.int ca), .val (.int cb), .val (.int (fl &&& (3 : Int32))), .val (.int (0 : Int32)), .unset, .unset, .unset] []))
          refine own_st (fun u_ k_ => XS.iconst X0.here hx rfl (hb hby at_84) k_) ?_
          show own_Go p e below _ (s₁.setTop (mkF m 85 #[.val (.int nb), .val (.int fl), .val (.int ca), .val (.int cb), .val (.int (fl &&& (3 : Int32))), .val (.int (0 : Int32)), .unset, .unset, .unset] [(.int (2 : Int32))]))
          obtain ⟨T692, h692, k692, X692, e692, E692, A692, Y692, st692⟩ := newPE X0 hx hZ (own_w hw 0 rfl) e0 (g := (mkF m 85 #[.val (.int nb), .val (.int fl), .val (.int ca), .val (.int cb), .val (.int (fl &&& (3 : Int32))), .val (.int (0 : Int32)), .unset, .unset, .unset] [(.int (2 : Int32))])) rfl (hb hby at_85) rfl (by decide) (cap := 2) (by decide) (by decide) (by decide) (by decide) (ad := "[C") own_lm_262
          obtain ⟨b692, g692⟩ : ∃ z, z = h0.size := ⟨_, rfl⟩
          rw [← g692] at A692 Y692 st692
          have V692 : Arv Z h692 b692 k692 .char (2 : Int32) [(.int (0 : Int32)), (.int (0 : Int32))] (.int (0 : Int32)) := (Arv.new A692 (by decide)).pad (pad_rep [] (.int (0 : Int32)) 2)
          refine own_st (fun u_ k_ => st692 u_ k_) ?_
          show own_Go p e below _ (T692.setTop (mkF m 87 #[.val (.int nb), .val (.int fl), .val (.int ca), .val (.int cb), .val (.int (fl &&& (3 : Int32))), .val (.int (0 : Int32)), .unset, .unset, .unset] [(.ref b692)]))
          refine own_st (fun u_ k_ => XS.astore X692.here hx rfl (hb hby at_87) rfl rfl (l' := #[.val (.int nb), .val (.int fl), .val (.int ca), .val (.int cb), .val (.int (fl &&& (3 : Int32))), .val (.int (0 : Int32)), .unset, .val (.ref b692), .unset]) rfl k_) ?_
          show own_Go p e below _ (T692.setTop (mkF m 89 #[.val (.int nb), .val (.int fl), .val (.int ca), .val (.int cb), .val (.int (fl &&& (3 : Int32))), .val (.int (0 : Int32)), .unset, .val (.ref b692), .unset] []))
          refine own_st (fun u_ k_ => XS.aload X692.here hx rfl (hb hby at_89) rfl rfl k_) ?_
          show own_Go p e below _ (T692.setTop (mkF m 91 #[.val (.int nb), .val (.int fl), .val (.int ca), .val (.int cb), .val (.int (fl &&& (3 : Int32))), .val (.int (0 : Int32)), .unset, .val (.ref b692), .unset] [(.ref b692)]))
          refine own_st (fun u_ k_ => XS.iconst X692.here hx rfl (hb hby at_91) k_) ?_
          show own_Go p e below _ (T692.setTop (mkF m 92 #[.val (.int nb), .val (.int fl), .val (.int ca), .val (.int cb), .val (.int (fl &&& (3 : Int32))), .val (.int (0 : Int32)), .unset, .val (.ref b692), .unset] [(.int (0 : Int32)), (.ref b692)]))
          refine own_st (fun u_ k_ => XS.iloadN X692.here hx rfl (hb hby at_92) rfl k_) ?_
          show own_Go p e below _ (T692.setTop (mkF m 93 #[.val (.int nb), .val (.int fl), .val (.int ca), .val (.int cb), .val (.int (fl &&& (3 : Int32))), .val (.int (0 : Int32)), .unset, .val (.ref b692), .unset] [(.int ca), (.int (0 : Int32)), (.ref b692)]))
          refine own_st (X692.ldcInt hx hown (mvT hZ (own_w hw 1 rfl)) (g := (mkF m 93 #[.val (.int nb), .val (.int fl), .val (.int ca), .val (.int cb), .val (.int (fl &&& (3 : Int32))), .val (.int (0 : Int32)), .unset, .val (.ref b692), .unset] [(.int ca), (.int (0 : Int32)), (.ref b692)])) rfl (hb hby at_93)) ?_
          show own_Go p e below _ (T692.setTop (mkF m 95 #[.val (.int nb), .val (.int fl), .val (.int ca), .val (.int cb), .val (.int (fl &&& (3 : Int32))), .val (.int (0 : Int32)), .unset, .val (.ref b692), .unset] [(.int (65535 : Int32)), (.int ca), (.int (0 : Int32)), (.ref b692)]))
          refine own_st (fun u_ k_ => XS.iand X692.here hx rfl (hb hby at_95) rfl k_) ?_
          show own_Go p e below _ (T692.setTop (mkF m 96 #[.val (.int nb), .val (.int fl), .val (.int ca), .val (.int cb), .val (.int (fl &&& (3 : Int32))), .val (.int (0 : Int32)), .unset, .val (.ref b692), .unset] [(.int (ca &&& (65535 : Int32))), (.int (0 : Int32)), (.ref b692)]))
          refine own_st (fun u_ k_ => XS.i2c X692.here hx rfl (hb hby at_96) rfl k_) ?_
          show own_Go p e below _ (T692.setTop (mkF m 97 #[.val (.int nb), .val (.int fl), .val (.int ca), .val (.int cb), .val (.int (fl &&& (3 : Int32))), .val (.int (0 : Int32)), .unset, .val (.ref b692), .unset] [(.int ((ca &&& (65535 : Int32)).toUInt32.toUInt16.toUInt32.toInt32)), (.int (0 : Int32)), (.ref b692)]))
          obtain ⟨cl693, Ar693, q693, S693, N693, H693, G693⟩ := id V692
          have hi693 : ¬ ((0 : Int32) < 0 ∨ cl693.slots.size ≤ ((0 : Int32)).toNatClampNeg) := inb_of S693 ⟨by decide, by decide⟩
          obtain ⟨T694, h694, X694, e694, W694, st694⟩ := stC X692 hx hZ e692 Ar693 (j := (0 : Int32)) hi693 (g := (mkF m 97 #[.val (.int nb), .val (.int fl), .val (.int ca), .val (.int cb), .val (.int (fl &&& (3 : Int32))), .val (.int (0 : Int32)), .unset, .val (.ref b692), .unset] [(.int ((ca &&& (65535 : Int32)).toUInt32.toUInt16.toUInt32.toInt32)), (.int (0 : Int32)), (.ref b692)])) rfl rfl (hb hby at_97)
          have g695 : n0 ≤ b692 := Nat.le_trans (own_nl O0) (Nat.le_of_eq g692.symm)
          have N694 := Fr.snoc X694 N0 g695
          have V694 : Arv Z h694 b692 k692 .char (2 : Int32) [(.int (nar .char ((ca &&& (65535 : Int32)).toUInt32.toUInt16.toUInt32.toInt32))), (.int (0 : Int32))] (.int (0 : Int32)) := Arv.set Ar693 q693 S693 N693 H693 G693 (fits_nar_char _) W694 0 rfl (Nat.le_of_ble_eq_true rfl)
          refine own_st (fun u_ k_ => st694 u_ k_) ?_
          show own_Go p e below _ (T694.setTop (mkF m 98 #[.val (.int nb), .val (.int fl), .val (.int ca), .val (.int cb), .val (.int (fl &&& (3 : Int32))), .val (.int (0 : Int32)), .unset, .val (.ref b692), .unset] []))
          refine own_st (fun u_ k_ => XS.aload X694.here hx rfl (hb hby at_98) rfl rfl k_) ?_
          show own_Go p e below _ (T694.setTop (mkF m 100 #[.val (.int nb), .val (.int fl), .val (.int ca), .val (.int cb), .val (.int (fl &&& (3 : Int32))), .val (.int (0 : Int32)), .unset, .val (.ref b692), .unset] [(.ref b692)]))
          refine own_st (fun u_ k_ => XS.iconst X694.here hx rfl (hb hby at_100) k_) ?_
          show own_Go p e below _ (T694.setTop (mkF m 101 #[.val (.int nb), .val (.int fl), .val (.int ca), .val (.int cb), .val (.int (fl &&& (3 : Int32))), .val (.int (0 : Int32)), .unset, .val (.ref b692), .unset] [(.int (1 : Int32)), (.ref b692)]))
          refine own_st (fun u_ k_ => XS.iloadN X694.here hx rfl (hb hby at_101) rfl k_) ?_
          show own_Go p e below _ (T694.setTop (mkF m 102 #[.val (.int nb), .val (.int fl), .val (.int ca), .val (.int cb), .val (.int (fl &&& (3 : Int32))), .val (.int (0 : Int32)), .unset, .val (.ref b692), .unset] [(.int cb), (.int (1 : Int32)), (.ref b692)]))
          refine own_st (X694.ldcInt hx hown (mvT hZ (own_w hw 1 rfl)) (g := (mkF m 102 #[.val (.int nb), .val (.int fl), .val (.int ca), .val (.int cb), .val (.int (fl &&& (3 : Int32))), .val (.int (0 : Int32)), .unset, .val (.ref b692), .unset] [(.int cb), (.int (1 : Int32)), (.ref b692)])) rfl (hb hby at_102)) ?_
          show own_Go p e below _ (T694.setTop (mkF m 104 #[.val (.int nb), .val (.int fl), .val (.int ca), .val (.int cb), .val (.int (fl &&& (3 : Int32))), .val (.int (0 : Int32)), .unset, .val (.ref b692), .unset] [(.int (65535 : Int32)), (.int cb), (.int (1 : Int32)), (.ref b692)]))
          refine own_st (fun u_ k_ => XS.iand X694.here hx rfl (hb hby at_104) rfl k_) ?_
          show own_Go p e below _ (T694.setTop (mkF m 105 #[.val (.int nb), .val (.int fl), .val (.int ca), .val (.int cb), .val (.int (fl &&& (3 : Int32))), .val (.int (0 : Int32)), .unset, .val (.ref b692), .unset] [(.int (cb &&& (65535 : Int32))), (.int (1 : Int32)), (.ref b692)]))
          refine own_st (fun u_ k_ => XS.i2c X694.here hx rfl (hb hby at_105) rfl k_) ?_
          show own_Go p e below _ (T694.setTop (mkF m 106 #[.val (.int nb), .val (.int fl), .val (.int ca), .val (.int cb), .val (.int (fl &&& (3 : Int32))), .val (.int (0 : Int32)), .unset, .val (.ref b692), .unset] [(.int ((cb &&& (65535 : Int32)).toUInt32.toUInt16.toUInt32.toInt32)), (.int (1 : Int32)), (.ref b692)]))
          obtain ⟨cl696, Ar696, q696, S696, N696, H696, G696⟩ := id V694
          have hi696 : ¬ ((1 : Int32) < 0 ∨ cl696.slots.size ≤ ((1 : Int32)).toNatClampNeg) := inb_of S696 ⟨by decide, by decide⟩
          obtain ⟨T697, h697, X697, e697, W697, st697⟩ := stC X694 hx hZ e694 Ar696 (j := (1 : Int32)) hi696 (g := (mkF m 106 #[.val (.int nb), .val (.int fl), .val (.int ca), .val (.int cb), .val (.int (fl &&& (3 : Int32))), .val (.int (0 : Int32)), .unset, .val (.ref b692), .unset] [(.int ((cb &&& (65535 : Int32)).toUInt32.toUInt16.toUInt32.toInt32)), (.int (1 : Int32)), (.ref b692)])) rfl rfl (hb hby at_106)
          have N697 := Fr.snoc X697 N694 g695
          have V697 : Arv Z h697 b692 k692 .char (2 : Int32) [(.int (nar .char ((ca &&& (65535 : Int32)).toUInt32.toUInt16.toUInt32.toInt32))), (.int (nar .char ((cb &&& (65535 : Int32)).toUInt32.toUInt16.toUInt32.toInt32)))] (.int (0 : Int32)) := Arv.set Ar696 q696 S696 N696 H696 G696 (fits_nar_char _) W697 1 rfl (Nat.le_of_ble_eq_true rfl)
          refine own_st (fun u_ k_ => st697 u_ k_) ?_
          show own_Go p e below _ (T697.setTop (mkF m 107 #[.val (.int nb), .val (.int fl), .val (.int ca), .val (.int cb), .val (.int (fl &&& (3 : Int32))), .val (.int (0 : Int32)), .unset, .val (.ref b692), .unset] []))
          obtain ⟨T698, h698, X698, e698, E698, A698, D698, U698, st698⟩ := newO X697 hx hZ hown (own_w hw 2 rfl) (own_w hw 3 rfl) (own_w hw 4 rfl) e697 (g := (mkF m 107 #[.val (.int nb), .val (.int fl), .val (.int ca), .val (.int cb), .val (.int (fl &&& (3 : Int32))), .val (.int (0 : Int32)), .unset, .val (.ref b692), .unset] [])) rfl (hb hby at_107) (by decide) (by decide)
          obtain ⟨b698, g698⟩ : ∃ z, z = h697.size := ⟨_, rfl⟩
          rw [← g698] at A698 D698 U698 st698
          have F698_coder : Fld Z h698 b698 "java/lang/String" "coder" "B" (.int (0 : Int32)) := D698 (Or.inr (own_w hw 28 rfl)) (ty := .byte) own_lm_162
          have F698_value : Fld Z h698 b698 "java/lang/String" "value" "[B" .null := D698 (Or.inr (own_w hw 30 rfl)) (ty := (.array .byte)) own_lm_167
          refine own_st (fun u_ k_ => st698 u_ k_) ?_
          show own_Go p e below _ (T698.setTop (mkF m 110 #[.val (.int nb), .val (.int fl), .val (.int ca), .val (.int cb), .val (.int (fl &&& (3 : Int32))), .val (.int (0 : Int32)), .unset, .val (.ref b692), .unset] [(.ref b698)]))
          refine own_st (fun u_ k_ => XS.dup X698.here hx rfl (hb hby at_110) rfl rfl k_) ?_
          show own_Go p e below _ (T698.setTop (mkF m 111 #[.val (.int nb), .val (.int fl), .val (.int ca), .val (.int cb), .val (.int (fl &&& (3 : Int32))), .val (.int (0 : Int32)), .unset, .val (.ref b692), .unset] [(.ref b698), (.ref b698)]))
          refine own_st (fun u_ k_ => XS.aload X698.here hx rfl (hb hby at_111) rfl rfl k_) ?_
          show own_Go p e below _ (T698.setTop (mkF m 113 #[.val (.int nb), .val (.int fl), .val (.int ca), .val (.int cb), .val (.int (fl &&& (3 : Int32))), .val (.int (0 : Int32)), .unset, .val (.ref b692), .unset] [(.ref b692), (.ref b698), (.ref b698)]))
          have F699 := (Exa.ext E698 (Exa.wr W697 (Exa.wr W694 Y692)))
          have O701 : Old Z n0 h692 := O0.ext E692
          have O702 : Old Z n0 h694 := O701.wr W694 g695
          have O703 : Old Z n0 h697 := O702.wr W697 g695
          have g700 : n0 ≤ b698 := Nat.le_trans (own_nl O703) (Nat.le_of_eq g698.symm)
          have F704 := (V697.ext E698)
          have O706 : Old Z n0 h698 := O703.ext E698
          obtain ⟨T705, v705, L705, X705, hQ705, st705⟩ := own_callN X698 hx hZ (y := own_y_198) rfl hown (own_w hw 5 rfl) (own_w hw 6 rfl) (own_w hw 4 rfl) (own_w hw 7 rfl) own_lm_181 (rmSJ_2 l Z a0 hw [] wcs hS b698 b692 k692 (nar .char ((ca &&& (65535 : Int32)).toUInt32.toUInt16.toUInt32.toInt32)) (nar .char ((cb &&& (65535 : Int32)).toUInt32.toUInt16.toUInt32.toInt32)) h698 n0 O706 A698 F699 g700 F698_value F698_coder F704 (own_c16 _) (own_c16 _)) e698 own_pd_263 (a := b698) (argsL := [(.ref b692)]) (rest := [(.ref b698)]) rfl rfl (g := (mkF m 113 #[.val (.int nb), .val (.int fl), .val (.int ca), .val (.int cb), .val (.int (fl &&& (3 : Int32))), .val (.int (0 : Int32)), .unset, .val (.ref b692), .unset] [(.ref b692), (.ref b698), (.ref b698)])) rfl (by rw [hml]; rfl) rfl (hb hby at_113) (W := 1) rfl (by decide) (by decide) (by decide) (by decide)
          obtain ⟨r_707, kr_708, cd_709, ln_710, us_711, rfl, M705, K705, z712, F713, F714, F715, F716, F717, pl_718⟩ := hQ705
          have N705 := Fr.app N697 M705
          refine own_st (fun u_ k_ => st705 u_ k_) ?_
          show own_Go p e below _ (T705.setTop (mkF m 116 #[.val (.int nb), .val (.int fl), .val (.int ca), .val (.int cb), .val (.int (fl &&& (3 : Int32))), .val (.int (0 : Int32)), .unset, .val (.ref b692), .unset] [(.ref b698)]))
          refine own_st (fun u_ k_ => XS.astore X705.here hx rfl (hb hby at_116) rfl rfl (l' := #[.val (.int nb), .val (.int fl), .val (.int ca), .val (.int cb), .val (.int (fl &&& (3 : Int32))), .val (.int (0 : Int32)), .val (.ref b698), .val (.ref b692), .unset]) rfl k_) ?_
          show own_Go p e below _ (T705.setTop (mkF m 118 #[.val (.int nb), .val (.int fl), .val (.int ca), .val (.int cb), .val (.int (fl &&& (3 : Int32))), .val (.int (0 : Int32)), .val (.ref b698), .val (.ref b692), .unset] []))
          obtain ⟨T719, h719, X719, e719, E719, A719, D719, U719, st719⟩ := newO X705 hx hZ hown (own_w hw 31 rfl) (own_w hw 32 rfl) (own_w hw 33 rfl) rfl (g := (mkF m 118 #[.val (.int nb), .val (.int fl), .val (.int ca), .val (.int cb), .val (.int (fl &&& (3 : Int32))), .val (.int (0 : Int32)), .val (.ref b698), .val (.ref b692), .unset] [])) rfl (hb hby at_118) (by decide) (by decide)
          obtain ⟨b719, g719⟩ : ∃ z, z = T705.heap.size := ⟨_, rfl⟩
          rw [← g719] at A719 D719 U719 st719
          have F719_number : Fld Z h719 b719 "com/example/spulenwerk/spulenwerk/jsonlines/LineReader$Line" "number" "I" (.int (0 : Int32)) := D719 (Or.inr (own_w hw 44 rfl)) (ty := .int) own_lm_226
          have F719_text : Fld Z h719 b719 "com/example/spulenwerk/spulenwerk/jsonlines/LineReader$Line" "text" "Ljava/lang/String;" .null := D719 (Or.inr (own_w hw 46 rfl)) (ty := (.object "java/lang/String")) own_lm_231
          have F719_terminated : Fld Z h719 b719 "com/example/spulenwerk/spulenwerk/jsonlines/LineReader$Line" "terminated" "Z" (.int (0 : Int32)) := D719 (Or.inr (own_w hw 48 rfl)) (ty := .boolean) own_lm_237
          refine own_st (fun u_ k_ => st719 u_ k_) ?_
          show own_Go p e below _ (T719.setTop (mkF m 121 #[.val (.int nb), .val (.int fl), .val (.int ca), .val (.int cb), .val (.int (fl &&& (3 : Int32))), .val (.int (0 : Int32)), .val (.ref b698), .val (.ref b692), .unset] [(.ref b719)]))
          refine own_st (fun u_ k_ => XS.dup X719.here hx rfl (hb hby at_121) rfl rfl k_) ?_
          show own_Go p e below _ (T719.setTop (mkF m 122 #[.val (.int nb), .val (.int fl), .val (.int ca), .val (.int cb), .val (.int (fl &&& (3 : Int32))), .val (.int (0 : Int32)), .val (.ref b698), .val (.ref b692), .unset] [(.ref b719), (.ref b719)]))
          refine own_st (fun u_ k_ => XS.iloadN X719.here hx rfl (hb hby at_122) rfl k_) ?_
          show own_Go p e below _ (T719.setTop (mkF m 123 #[.val (.int nb), .val (.int fl), .val (.int ca), .val (.int cb), .val (.int (fl &&& (3 : Int32))), .val (.int (0 : Int32)), .val (.ref b698), .val (.ref b692), .unset] [(.int nb), (.ref b719), (.ref b719)]))
          refine own_st (fun u_ k_ => XS.aload X719.here hx rfl (hb hby at_123) rfl rfl k_) ?_
          show own_Go p e below _ (T719.setTop (mkF m 125 #[.val (.int nb), .val (.int fl), .val (.int ca), .val (.int cb), .val (.int (fl &&& (3 : Int32))), .val (.int (0 : Int32)), .val (.ref b698), .val (.ref b692), .unset] [(.ref b698), (.int nb), (.ref b719), (.ref b719)]))
          refine own_st (fun u_ k_ => XS.iload X719.here hx rfl (hb hby at_125) rfl k_) ?_
          show own_Go p e below _ (T719.setTop (mkF m 127 #[.val (.int nb), .val (.int fl), .val (.int ca), .val (.int cb), .val (.int (fl &&& (3 : Int32))), .val (.int (0 : Int32)), .val (.ref b698), .val (.ref b692), .unset] [(.int (0 : Int32)), (.ref b698), (.int nb), (.ref b719), (.ref b719)]))
          have O721 : Old Z n0 T705.heap := O706.keep K705 (allS g700 all0)
          have g720 : n0 ≤ b719 := Nat.le_trans (own_nl O721) (Nat.le_of_eq g719.symm)
          have O723 : Old Z n0 h719 := O721.ext E719
          obtain ⟨T722, v722, L722, X722, hQ722, st722⟩ := own_callN X719 hx hZ (y := own_y_244) rfl hown (own_w hw 34 rfl) (own_w hw 35 rfl) (own_w hw 33 rfl) (own_w hw 36 rfl) own_lm_258 (rmL0 l Z a0 hw [] wcs hS b719 nb ((.ref b698) : Value) h719 n0 O723 A719 g720 rfl F719_number F719_text F719_terminated) e719 own_pd_259 (a := b719) (argsL := [(.int nb), (.ref b698), (.int (0 : Int32))]) (rest := [(.ref b719)]) rfl rfl (g := (mkF m 127 #[.val (.int nb), .val (.int fl), .val (.int ca), .val (.int cb), .val (.int (fl &&& (3 : Int32))), .val (.int (0 : Int32)), .val (.ref b698), .val (.ref b692), .unset] [(.int (0 : Int32)), (.ref b698), (.int nb), (.ref b719), (.ref b719)])) rfl (by rw [hml]; rfl) rfl (hb hby at_127) (W := 1) rfl (by decide) (by decide) (by decide) (by decide)
          obtain ⟨rfl, M722, K722, F724, F725⟩ := hQ722
          have N722 := Fr.app N705 M722
          refine own_st (fun u_ k_ => st722 u_ k_) ?_
          show own_Go p e below _ (T722.setTop (mkF m 130 #[.val (.int nb), .val (.int fl), .val (.int ca), .val (.int cb), .val (.int (fl &&& (3 : Int32))), .val (.int (0 : Int32)), .val (.ref b698), .val (.ref b692), .unset] [(.ref b719)]))
          refine own_st (fun u_ k_ => XS.astore X722.here hx rfl (hb hby at_130) rfl rfl (l' := #[.val (.int nb), .val (.int fl), .val (.int ca), .val (.int cb), .val (.int (fl &&& (3 : Int32))), .val (.int (0 : Int32)), .val (.ref b698), .val (.ref b719), .unset]) rfl k_) ?_
          show own_Go p e below _ (T722.setTop (mkF m 132 #[.val (.int nb), .val (.int fl), .val (.int ca), .val (.int cb), .val (.int (fl &&& (3 : Int32))), .val (.int (0 : Int32)), .val (.ref b698), .val (.ref b719), .unset] []))
          refine own_st (fun u_ k_ => XS.iload X722.here hx rfl (hb hby at_132) rfl k_) ?_
          show own_Go p e below _ (T722.setTop (mkF m 134 #[.val (.int nb), .val (.int fl), .val (.int ca), .val (.int cb), .val (.int (fl &&& (3 : Int32))), .val (.int (0 : Int32)), .val (.ref b698), .val (.ref b719), .unset] [(.int (fl &&& (3 : Int32)))]))
          refine own_st (fun u_ k_ => XS.ifNo X722.here hx rfl (hb hby at_134) rfl (XT.i0_eq_f hc577) k_) ?_
          show own_Go p e below _ (T722.setTop (mkF m 137 #[.val (.int nb), .val (.int fl), .val (.int ca), .val (.int cb), .val (.int (fl &&& (3 : Int32))), .val (.int (0 : Int32)), .val (.ref b698), .val (.ref b719), .unset] []))
          refine own_st (fun u_ k_ => XS.iconst X722.here hx rfl (hb hby at_137) k_) ?_
          show own_Go p e below _ (T722.setTop (mkF m 138 #[.val (.int nb), .val (.int fl), .val (.int ca), .val (.int cb), .val (.int (fl &&& (3 : Int32))), .val (.int (0 : Int32)), .val (.ref b698), .val (.ref b719), .unset] [(.int (1 : Int32))]))
          refine own_st (fun u_ k_ => XS.goto X722.here hx rfl (pc0 := 138) (pc' := 142) rfl (hb hby at_138) (by decide) (by decide) k_) ?_
          show own_Go p e below _ (T722.setTop (mkF m 142 #[.val (.int nb), .val (.int fl), .val (.int ca), .val (.int cb), .val (.int (fl &&& (3 : Int32))), .val (.int (0 : Int32)), .val (.ref b698), .val (.ref b719), .unset] [(.int (1 : Int32))]))
          refine own_st (fun u_ k_ => XS.istore X722.here hx rfl (hb hby at_142) rfl (l' := #[.val (.int nb), .val (.int fl), .val (.int ca), .val (.int cb), .val (.int (fl &&& (3 : Int32))), .val (.int (0 : Int32)), .val (.ref b698), .val (.ref b719), .val (.int (1 : Int32))]) rfl k_) ?_
          show own_Go p e below _ (T722.setTop (mkF m 144 #[.val (.int nb), .val (.int fl), .val (.int ca), .val (.int cb), .val (.int (fl &&& (3 : Int32))), .val (.int (0 : Int32)), .val (.ref b698), .val (.ref b719), .val (.int (1 : Int32))] []))
          refine own_st (fun u_ k_ => XS.aload X722.here hx rfl (hb hby at_144) rfl rfl k_) ?_
          show own_Go p e below _ (T722.setTop (mkF m 146 #[.val (.int nb), .val (.int fl), .val (.int ca), .val (.int cb), .val (.int (fl &&& (3 : Int32))), .val (.int (0 : Int32)), .val (.ref b698), .val (.ref b719), .val (.int (1 : Int32))] [(.ref b719)]))
          have O727 : Old Z n0 T722.heap := O723.keep K722 (allS g720 all0)
          obtain ⟨T726, v726, L726, X726, hQ726, st726⟩ := own_callV X722 hx hZ (y := own_y_251) (z := own_y_251) hown (own_w hw 49 rfl) (own_w hw 50 rfl) (notFace_of_selects (args := #[]) (mvT hZ (own_w hw 52 rfl))) (own_w hw 52 rfl) (own_w hw 51 rfl) (own_w hw 33 rfl) (own_w hw 53 rfl) own_lm_258 (rmIR l Z a0 hw [] wcs hS b719 b698 T722.heap n0 O727 F725) rfl F724 own_pd_260 (argsL := []) (rest := []) rfl rfl (g := (mkF m 146 #[.val (.int nb), .val (.int fl), .val (.int ca), .val (.int cb), .val (.int (fl &&& (3 : Int32))), .val (.int (0 : Int32)), .val (.ref b698), .val (.ref b719), .val (.int (1 : Int32))] [(.ref b719)])) rfl (by rw [hml]; rfl) rfl (hb hby at_146) (W := 0) rfl (by decide) (by decide) (by decide) (by decide)
          obtain ⟨rfl, M726, e726⟩ := hQ726
          have N726 := Fr.app N722 M726
          refine own_st (fun u_ k_ => st726 u_ k_) ?_
          show own_Go p e below _ (T726.setTop (mkF m 149 #[.val (.int nb), .val (.int fl), .val (.int ca), .val (.int cb), .val (.int (fl &&& (3 : Int32))), .val (.int (0 : Int32)), .val (.ref b698), .val (.ref b719), .val (.int (1 : Int32))] [(.int (1 : Int32))]))
          refine own_st (fun u_ k_ => XS.iload X726.here hx rfl (hb hby at_149) rfl k_) ?_
          show own_Go p e below _ (T726.setTop (mkF m 151 #[.val (.int nb), .val (.int fl), .val (.int ca), .val (.int cb), .val (.int (fl &&& (3 : Int32))), .val (.int (0 : Int32)), .val (.ref b698), .val (.ref b719), .val (.int (1 : Int32))] [(.int (1 : Int32)), (.int (1 : Int32))]))
          refine own_st (fun u_ k_ => XS.icmpNo X726.here hx rfl (hb hby at_151) rfl (XT.ii_ne_f (by decide)) k_) ?_
          show own_Go p e below _ (T726.setTop (mkF m 154 #[.val (.int nb), .val (.int fl), .val (.int ca), .val (.int cb), .val (.int (fl &&& (3 : Int32))), .val (.int (0 : Int32)), .val (.ref b698), .val (.ref b719), .val (.int (1 : Int32))] []))
          refine own_st (fun u_ k_ => XS.aload X726.here hx rfl (hb hby at_154) rfl rfl k_) ?_
          show own_Go p e below _ (T726.setTop (mkF m 156 #[.val (.int nb), .val (.int fl), .val (.int ca), .val (.int cb), .val (.int (fl &&& (3 : Int32))), .val (.int (0 : Int32)), .val (.ref b698), .val (.ref b719), .val (.int (1 : Int32))] [(.ref b719)]))
          obtain ⟨T728, v728, L728, X728, hQ728, st728⟩ := own_callV X726 hx hZ (y := own_y_255) (z := own_y_255) hown (own_w hw 54 rfl) (own_w hw 55 rfl) (notFace_of_selects (args := #[]) (mvT hZ (own_w hw 57 rfl))) (own_w hw 57 rfl) (own_w hw 56 rfl) (own_w hw 33 rfl) (own_w hw 58 rfl) own_lm_258 (rmTR l Z a0 hw [] wcs hS b719 b698 T722.heap n0 O727 F725) e726 F724 own_pd_261 (argsL := []) (rest := []) rfl rfl (g := (mkF m 156 #[.val (.int nb), .val (.int fl), .val (.int ca), .val (.int cb), .val (.int (fl &&& (3 : Int32))), .val (.int (0 : Int32)), .val (.ref b698), .val (.ref b719), .val (.int (1 : Int32))] [(.ref b719)])) rfl (by rw [hml]; rfl) rfl (hb hby at_156) (W := 0) rfl (by decide) (by decide) (by decide) (by decide)
          obtain ⟨rfl, M728, e728⟩ := hQ728
          have N728 := Fr.app N726 M728
          refine own_st (fun u_ k_ => st728 u_ k_) ?_
          show own_Go p e below _ (T728.setTop (mkF m 159 #[.val (.int nb), .val (.int fl), .val (.int ca), .val (.int cb), .val (.int (fl &&& (3 : Int32))), .val (.int (0 : Int32)), .val (.ref b698), .val (.ref b719), .val (.int (1 : Int32))] [(.ref b698)]))
          refine own_st (fun u_ k_ => XS.ifnullNo X728.here hx rfl (hb hby at_159) rfl k_) ?_
          show own_Go p e below _ (T728.setTop (mkF m 162 #[.val (.int nb), .val (.int fl), .val (.int ca), .val (.int cb), .val (.int (fl &&& (3 : Int32))), .val (.int (0 : Int32)), .val (.ref b698), .val (.ref b719), .val (.int (1 : Int32))] []))
          refine own_st (fun u_ k_ => XS.iconst X728.here hx rfl (hb hby at_162) k_) ?_
          show own_Go p e below _ (T728.setTop (mkF m 163 #[.val (.int nb), .val (.int fl), .val (.int ca), .val (.int cb), .val (.int (fl &&& (3 : Int32))), .val (.int (0 : Int32)), .val (.ref b698), .val (.ref b719), .val (.int (1 : Int32))] [(.int (1 : Int32))]))
          refine own_st (fun u_ k_ => XS.goto X728.here hx rfl (pc0 := 163) (pc' := 167) rfl (hb hby at_163) (by decide) (by decide) k_) ?_
          show own_Go p e below _ (T728.setTop (mkF m 167 #[.val (.int nb), .val (.int fl), .val (.int ca), .val (.int cb), .val (.int (fl &&& (3 : Int32))), .val (.int (0 : Int32)), .val (.ref b698), .val (.ref b719), .val (.int (1 : Int32))] [(.int (1 : Int32))]))
          refine own_st (fun u_ k_ => XS.iload X728.here hx rfl (hb hby at_167) rfl k_) ?_
          show own_Go p e below _ (T728.setTop (mkF m 169 #[.val (.int nb), .val (.int fl), .val (.int ca), .val (.int cb), .val (.int (fl &&& (3 : Int32))), .val (.int (0 : Int32)), .val (.ref b698), .val (.ref b719), .val (.int (1 : Int32))] [(.int (1 : Int32)), (.int (1 : Int32))]))
          refine own_st (fun u_ k_ => XS.icmpNo X728.here hx rfl (hb hby at_169) rfl (XT.ii_ne_f (by decide)) k_) ?_
          show own_Go p e below _ (T728.setTop (mkF m 172 #[.val (.int nb), .val (.int fl), .val (.int ca), .val (.int cb), .val (.int (fl &&& (3 : Int32))), .val (.int (0 : Int32)), .val (.ref b698), .val (.ref b719), .val (.int (1 : Int32))] []))
          refine own_st (fun u_ k_ => XS.iconst X728.here hx rfl (hb hby at_172) k_) ?_
          show own_Go p e below _ (T728.setTop (mkF m 173 #[.val (.int nb), .val (.int fl), .val (.int ca), .val (.int cb), .val (.int (fl &&& (3 : Int32))), .val (.int (0 : Int32)), .val (.ref b698), .val (.ref b719), .val (.int (1 : Int32))] [(.int (1 : Int32))]))
          refine own_st (fun u_ k_ => XS.goto X728.here hx rfl (pc0 := 173) (pc' := 177) rfl (hb hby at_173) (by decide) (by decide) k_) ?_
          show own_Go p e below _ (T728.setTop (mkF m 177 #[.val (.int nb), .val (.int fl), .val (.int ca), .val (.int cb), .val (.int (fl &&& (3 : Int32))), .val (.int (0 : Int32)), .val (.ref b698), .val (.ref b719), .val (.int (1 : Int32))] [(.int (1 : Int32))]))
          have K729 : Keep h0 h692 [] := (Keep.refl h0 []).ext E692
          have z731 : h0.size ≤ b692 := Nat.le_trans (Nat.le_refl _) (Nat.le_of_eq g692.symm)
          have K730 : Keep h0 h694 [] := K729.wr W694 (Or.inr z731)
          have K732 : Keep h0 h697 [] := K730.wr W697 (Or.inr z731)
          have K733 : Keep h0 h698 [] := K732.ext E698
          have z735 : h0.size ≤ b698 := Nat.le_trans (Nat.le_trans (Nat.le_trans E692.1 (Nat.le_of_eq W694.size.symm)) (Nat.le_of_eq W697.size.symm)) (Nat.le_of_eq g698.symm)
          have K734 : Keep h0 T705.heap [] := K733.trans K705 (allS (Or.inr z735) all0)
          have K736 : Keep h0 h719 [] := K734.ext E719
          have z738 : h0.size ≤ b719 := Nat.le_trans (Nat.le_trans (Nat.le_trans (Nat.le_trans (Nat.le_trans E692.1 (Nat.le_of_eq W694.size.symm)) (Nat.le_of_eq W697.size.symm)) E698.1) K705.1) (Nat.le_of_eq g719.symm)
          have K737 : Keep h0 T722.heap [] := K736.trans K722 (allS (Or.inr z738) all0)
          have R739 : CHr Z own_EL s.vm h0 s.vm h692 := R0.trans (CHr.ext E692 R0.1)
          have sf_741 : Safe Z own_EL s.vm h692 b692 := Safe.exa hZ_0.alike Y692 own_lm_264 own_lm_202
          have R740 : CHr Z own_EL s.vm h0 s.vm h694 := R739.trans (CHr.wr W694 sf_741 R739.1)
          have F743 := (Exa.wr W694 Y692)
          have sf_744 : Safe Z own_EL s.vm h694 b692 := Safe.exa hZ_0.alike F743 own_lm_264 own_lm_202
          have R742 : CHr Z own_EL s.vm h0 s.vm h697 := R740.trans (CHr.wr W697 sf_744 R740.1)
          have R745 : CHr Z own_EL s.vm h0 s.vm h698 := R742.trans (CHr.ext E698 R742.1)
          have sf_747 : Safe Z own_EL s.vm h697 b698 := Safe.new (Nat.le_of_eq g698.symm)
          have sf_748 : Safe Z own_EL s.vm h698 b698 := Safe.ext E698 R742.1 sf_747
          have R746 : CHr Z own_EL s.vm h0 s.vm T705.heap := R745.trans (CHr.keep K705 (sfS sf_748 sf0) R745.1)
          have R749 : CHr Z own_EL s.vm h0 s.vm h719 := R746.trans (CHr.ext E719 R746.1)
          have sf_751 : Safe Z own_EL s.vm T705.heap b719 := Safe.new (Nat.le_of_eq g719.symm)
          have sf_752 : Safe Z own_EL s.vm h719 b719 := Safe.ext E719 R746.1 sf_751
          have R750 : CHr Z own_EL s.vm h0 s.vm T722.heap := R749.trans (CHr.keep K722 (sfS sf_752 sf0) R749.1)
          exact own_retXH X728 hSi0 (Nat.le_trans (Nat.zero_le _) (Nat.le_trans (Nat.le_trans (Nat.le_trans (Nat.le_trans (Nat.le_trans (Nat.le_trans E692.1 (Nat.le_of_eq W694.size.symm)) (Nat.le_of_eq W697.size.symm)) E698.1) K705.1) E719.1) K722.1)) e728 hZ (own_hEL hw) hs0 R750 hx hlk hret rfl (Or.inl ⟨rfl, by simp, _, rfl⟩) (hb hby at_177) (by decide) (by decide) (show Qrm0 Z wcs nb fl ca cb h0 n0 (some (.int (1 : Int32))) T728.heap _ from (by rw [e728]; exact ⟨rfl, N728, K737⟩))
  · refine own_st (fun u_ k_ => XS.ifNo X0.here hx rfl (hb hby at_8) rfl (XT.i0_eq_f hc576) k_) ?_
    show own_Go p e below _ (s₁.setTop (mkF m 11 #[.val (.int nb), .val (.int fl), .val (.int ca), .val (.int cb), .val (.int (fl &&& (3 : Int32))), .unset, .unset, .unset, .unset] []))
    refine own_st (fun u_ k_ => XS.iconst X0.here hx rfl (hb hby at_11) k_) ?_
    show own_Go p e below _ (s₁.setTop (mkF m 12 #[.val (.int nb), .val (.int fl), .val (.int ca), .val (.int cb), .val (.int (fl &&& (3 : Int32))), .unset, .unset, .unset, .unset] [(.int (1 : Int32))]))
    refine own_st (fun u_ k_ => XS.goto X0.here hx rfl (pc0 := 12) (pc' := 16) rfl (hb hby at_12) (by decide) (by decide) k_) ?_
    show own_Go p e below _ (s₁.setTop (mkF m 16 #[.val (.int nb), .val (.int fl), .val (.int ca), .val (.int cb), .val (.int (fl &&& (3 : Int32))), .unset, .unset, .unset, .unset] [(.int (1 : Int32))]))
    refine own_st (fun u_ k_ => XS.istore X0.here hx rfl (hb hby at_16) rfl (l' := #[.val (.int nb), .val (.int fl), .val (.int ca), .val (.int cb), .val (.int (fl &&& (3 : Int32))), .val (.int (1 : Int32)), .unset, .unset, .unset]) rfl k_) ?_
    show own_Go p e below _ (s₁.setTop (mkF m 18 #[.val (.int nb), .val (.int fl), .val (.int ca), .val (.int cb), .val (.int (fl &&& (3 : Int32))), .val (.int (1 : Int32)), .unset, .unset, .unset] []))
    refine own_st (fun u_ k_ => XS.iload X0.here hx rfl (hb hby at_18) rfl k_) ?_
    show own_Go p e below _ (s₁.setTop (mkF m 20 #[.val (.int nb), .val (.int fl), .val (.int ca), .val (.int cb), .val (.int (fl &&& (3 : Int32))), .val (.int (1 : Int32)), .unset, .unset, .unset] [(.int (fl &&& (3 : Int32)))]))
    by_cases hc753 : (fl &&& (3 : Int32)) = (0 : Int32)
    · refine own_st (fun u_ k_ => XS.ifNo X0.here hx rfl (hb hby at_20) rfl (XT.i0_ne_f hc753) k_) ?_
      show own_Go p e below _ (s₁.setTop (mkF m 23 #[.val (.int nb), .val (.int fl), .val (.int ca), .val (.int cb), .val (.int (fl &&& (3 : Int32))), .val (.int (1 : Int32)), .unset, .unset, .unset] []))
      refine own_st (fun u_ k_ => XS.aconstNull X0.here hx rfl (hb hby at_23) k_) ?_
      show own_Go p e below _ (s₁.setTop (mkF m 24 #[.val (.int nb), .val (.int fl), .val (.int ca), .val (.int cb), .val (.int (fl &&& (3 : Int32))), .val (.int (1 : Int32)), .unset, .unset, .unset] [.null]))
      refine own_st (fun u_ k_ => XS.astore X0.here hx rfl (hb hby at_24) rfl rfl (l' := #[.val (.int nb), .val (.int fl), .val (.int ca), .val (.int cb), .val (.int (fl &&& (3 : Int32))), .val (.int (1 : Int32)), .val .null, .unset, .unset]) rfl k_) ?_
      show own_Go p e below _ (s₁.setTop (mkF m 26 #[.val (.int nb), .val (.int fl), .val (.int ca), .val (.int cb), .val (.int (fl &&& (3 : Int32))), .val (.int (1 : Int32)), .val .null, .unset, .unset] []))
      refine own_st (fun u_ k_ => XS.goto X0.here hx rfl (pc0 := 26) (pc' := 118) rfl (hb hby at_26) (by decide) (by decide) k_) ?_
      show own_Go p e below _ (s₁.setTop (mkF m 118 #[.val (.int nb), .val (.int fl), .val (.int ca), .val (.int cb), .val (.int (fl &&& (3 : Int32))), .val (.int (1 : Int32)), .val .null, .unset, .unset] []))
      obtain ⟨T754, h754, X754, e754, E754, A754, D754, U754, st754⟩ := newO X0 hx hZ hown (own_w hw 31 rfl) (own_w hw 32 rfl) (own_w hw 33 rfl) e0 (g := (mkF m 118 #[.val (.int nb), .val (.int fl), .val (.int ca), .val (.int cb), .val (.int (fl &&& (3 : Int32))), .val (.int (1 : Int32)), .val .null, .unset, .unset] [])) rfl (hb hby at_118) (by decide) (by decide)
      obtain ⟨b754, g754⟩ : ∃ z, z = h0.size := ⟨_, rfl⟩
      rw [← g754] at A754 D754 U754 st754
      have F754_number : Fld Z h754 b754 "com/example/spulenwerk/spulenwerk/jsonlines/LineReader$Line" "number" "I" (.int (0 : Int32)) := D754 (Or.inr (own_w hw 44 rfl)) (ty := .int) own_lm_226
      have F754_text : Fld Z h754 b754 "com/example/spulenwerk/spulenwerk/jsonlines/LineReader$Line" "text" "Ljava/lang/String;" .null := D754 (Or.inr (own_w hw 46 rfl)) (ty := (.object "java/lang/String")) own_lm_231
      have F754_terminated : Fld Z h754 b754 "com/example/spulenwerk/spulenwerk/jsonlines/LineReader$Line" "terminated" "Z" (.int (0 : Int32)) := D754 (Or.inr (own_w hw 48 rfl)) (ty := .boolean) own_lm_237
      refine own_st (fun u_ k_ => st754 u_ k_) ?_
      show own_Go p e below _ (T754.setTop (mkF m 121 #[.val (.int nb), .val (.int fl), .val (.int ca), .val (.int cb), .val (.int (fl &&& (3 : Int32))), .val (.int (1 : Int32)), .val .null, .unset, .unset] [(.ref b754)]))
      refine own_st (fun u_ k_ => XS.dup X754.here hx rfl (hb hby at_121) rfl rfl k_) ?_
      show own_Go p e below _ (T754.setTop (mkF m 122 #[.val (.int nb), .val (.int fl), .val (.int ca), .val (.int cb), .val (.int (fl &&& (3 : Int32))), .val (.int (1 : Int32)), .val .null, .unset, .unset] [(.ref b754), (.ref b754)]))
      refine own_st (fun u_ k_ => XS.iloadN X754.here hx rfl (hb hby at_122) rfl k_) ?_
      show own_Go p e below _ (T754.setTop (mkF m 123 #[.val (.int nb), .val (.int fl), .val (.int ca), .val (.int cb), .val (.int (fl &&& (3 : Int32))), .val (.int (1 : Int32)), .val .null, .unset, .unset] [(.int nb), (.ref b754), (.ref b754)]))
      refine own_st (fun u_ k_ => XS.aload X754.here hx rfl (hb hby at_123) rfl rfl k_) ?_
      show own_Go p e below _ (T754.setTop (mkF m 125 #[.val (.int nb), .val (.int fl), .val (.int ca), .val (.int cb), .val (.int (fl &&& (3 : Int32))), .val (.int (1 : Int32)), .val .null, .unset, .unset] [.null, (.int nb), (.ref b754), (.ref b754)]))
      refine own_st (fun u_ k_ => XS.iload X754.here hx rfl (hb hby at_125) rfl k_) ?_
      show own_Go p e below _ (T754.setTop (mkF m 127 #[.val (.int nb), .val (.int fl), .val (.int ca), .val (.int cb), .val (.int (fl &&& (3 : Int32))), .val (.int (1 : Int32)), .val .null, .unset, .unset] [(.int (1 : Int32)), .null, (.int nb), (.ref b754), (.ref b754)]))
      have g755 : n0 ≤ b754 := Nat.le_trans (own_nl O0) (Nat.le_of_eq g754.symm)
      have O757 : Old Z n0 h754 := O0.ext E754
      obtain ⟨T756, v756, L756, X756, hQ756, st756⟩ := own_callN X754 hx hZ (y := own_y_244) rfl hown (own_w hw 34 rfl) (own_w hw 35 rfl) (own_w hw 33 rfl) (own_w hw 36 rfl) own_lm_258 (rmL1 l Z a0 hw [] wcs hS b754 nb (.null : Value) h754 n0 O757 A754 g755 rfl F754_number F754_text F754_terminated) e754 own_pd_259 (a := b754) (argsL := [(.int nb), .null, (.int (1 : Int32))]) (rest := [(.ref b754)]) rfl rfl (g := (mkF m 127 #[.val (.int nb), .val (.int fl), .val (.int ca), .val (.int cb), .val (.int (fl &&& (3 : Int32))), .val (.int (1 : Int32)), .val .null, .unset, .unset] [(.int (1 : Int32)), .null, (.int nb), (.ref b754), (.ref b754)])) rfl (by rw [hml]; rfl) rfl (hb hby at_127) (W := 1) rfl (by decide) (by decide) (by decide) (by decide)
      obtain ⟨rfl, M756, K756, F758, F759⟩ := hQ756
      have N756 := Fr.app N0 M756
      refine own_st (fun u_ k_ => st756 u_ k_) ?_
      show own_Go p e below _ (T756.setTop (mkF m 130 #[.val (.int nb), .val (.int fl), .val (.int ca), .val (.int cb), .val (.int (fl &&& (3 : Int32))), .val (.int (1 : Int32)), .val .null, .unset, .unset] [(.ref b754)]))
      refine own_st (fun u_ k_ => XS.astore X756.here hx rfl (hb hby at_130) rfl rfl (l' := #[.val (.int nb), .val (.int fl), .val (.int ca), .val (.int cb), .val (.int (fl &&& (3 : Int32))), .val (.int (1 : Int32)), .val .null, .val (.ref b754), .unset]) rfl k_) ?_
      show own_Go p e below _ (T756.setTop (mkF m 132 #[.val (.int nb), .val (.int fl), .val (.int ca), .val (.int cb), .val (.int (fl &&& (3 : Int32))), .val (.int (1 : Int32)), .val .null, .val (.ref b754), .unset] []))
      refine own_st (fun u_ k_ => XS.iload X756.here hx rfl (hb hby at_132) rfl k_) ?_
      show own_Go p e below _ (T756.setTop (mkF m 134 #[.val (.int nb), .val (.int fl), .val (.int ca), .val (.int cb), .val (.int (fl &&& (3 : Int32))), .val (.int (1 : Int32)), .val .null, .val (.ref b754), .unset] [(.int (fl &&& (3 : Int32)))]))
      refine own_st (fun u_ k_ => XS.ifYes X756.here hx rfl (pc0 := 134) (pc' := 141) rfl (hb hby at_134) rfl (XT.i0_eq_t hc753) (by decide) (by decide) k_) ?_
      show own_Go p e below _ (T756.setTop (mkF m 141 #[.val (.int nb), .val (.int fl), .val (.int ca), .val (.int cb), .val (.int (fl &&& (3 : Int32))), .val (.int (1 : Int32)), .val .null, .val (.ref b754), .unset] []))
      refine own_st (fun u_ k_ => XS.iconst X756.here hx rfl (hb hby at_141) k_) ?_
      show own_Go p e below _ (T756.setTop (mkF m 142 #[.val (.int nb), .val (.int fl), .val (.int ca), .val (.int cb), .val (.int (fl &&& (3 : Int32))), .val (.int (1 : Int32)), .val .null, .val (.ref b754), .unset] [(.int (0 : Int32))]))
      refine own_st (fun u_ k_ => XS.istore X756.here hx rfl (hb hby at_142) rfl (l' := #[.val (.int nb), .val (.int fl), .val (.int ca), .val (.int cb), .val (.int (fl &&& (3 : Int32))), .val (.int (1 : Int32)), .val .null, .val (.ref b754), .val (.int (0 : Int32))]) rfl k_) ?_
      show own_Go p e below _ (T756.setTop (mkF m 144 #[.val (.int nb), .val (.int fl), .val (.int ca), .val (.int cb), .val (.int (fl &&& (3 : Int32))), .val (.int (1 : Int32)), .val .null, .val (.ref b754), .val (.int (0 : Int32))] []))
      refine own_st (fun u_ k_ => XS.aload X756.here hx rfl (hb hby at_144) rfl rfl k_) ?_
      show own_Go p e below _ (T756.setTop (mkF m 146 #[.val (.int nb), .val (.int fl), .val (.int ca), .val (.int cb), .val (.int (fl &&& (3 : Int32))), .val (.int (1 : Int32)), .val .null, .val (.ref b754), .val (.int (0 : Int32))] [(.ref b754)]))
      have O761 : Old Z n0 T756.heap := O757.keep K756 (allS g755 all0)
      obtain ⟨T760, v760, L760, X760, hQ760, st760⟩ := own_callV X756 hx hZ (y := own_y_251) (z := own_y_251) hown (own_w hw 49 rfl) (own_w hw 50 rfl) (notFace_of_selects (args := #[]) (mvT hZ (own_w hw 52 rfl))) (own_w hw 52 rfl) (own_w hw 51 rfl) (own_w hw 33 rfl) (own_w hw 53 rfl) own_lm_258 (rmIN l Z a0 hw [] wcs hS b754 T756.heap n0 O761 F759) rfl F758 own_pd_260 (argsL := []) (rest := []) rfl rfl (g := (mkF m 146 #[.val (.int nb), .val (.int fl), .val (.int ca), .val (.int cb), .val (.int (fl &&& (3 : Int32))), .val (.int (1 : Int32)), .val .null, .val (.ref b754), .val (.int (0 : Int32))] [(.ref b754)])) rfl (by rw [hml]; rfl) rfl (hb hby at_146) (W := 0) rfl (by decide) (by decide) (by decide) (by decide)
      obtain ⟨rfl, M760, e760⟩ := hQ760
      have N760 := Fr.app N756 M760
      refine own_st (fun u_ k_ => st760 u_ k_) ?_
      show own_Go p e below _ (T760.setTop (mkF m 149 #[.val (.int nb), .val (.int fl), .val (.int ca), .val (.int cb), .val (.int (fl &&& (3 : Int32))), .val (.int (1 : Int32)), .val .null, .val (.ref b754), .val (.int (0 : Int32))] [(.int (0 : Int32))]))
      refine own_st (fun u_ k_ => XS.iload X760.here hx rfl (hb hby at_149) rfl k_) ?_
      show own_Go p e below _ (T760.setTop (mkF m 151 #[.val (.int nb), .val (.int fl), .val (.int ca), .val (.int cb), .val (.int (fl &&& (3 : Int32))), .val (.int (1 : Int32)), .val .null, .val (.ref b754), .val (.int (0 : Int32))] [(.int (0 : Int32)), (.int (0 : Int32))]))
      refine own_st (fun u_ k_ => XS.icmpNo X760.here hx rfl (hb hby at_151) rfl (XT.ii_ne_f (by decide)) k_) ?_
      show own_Go p e below _ (T760.setTop (mkF m 154 #[.val (.int nb), .val (.int fl), .val (.int ca), .val (.int cb), .val (.int (fl &&& (3 : Int32))), .val (.int (1 : Int32)), .val .null, .val (.ref b754), .val (.int (0 : Int32))] []))
      refine own_st (fun u_ k_ => XS.aload X760.here hx rfl (hb hby at_154) rfl rfl k_) ?_
      show own_Go p e below _ (T760.setTop (mkF m 156 #[.val (.int nb), .val (.int fl), .val (.int ca), .val (.int cb), .val (.int (fl &&& (3 : Int32))), .val (.int (1 : Int32)), .val .null, .val (.ref b754), .val (.int (0 : Int32))] [(.ref b754)]))
      obtain ⟨T762, v762, L762, X762, hQ762, st762⟩ := own_callV X760 hx hZ (y := own_y_255) (z := own_y_255) hown (own_w hw 54 rfl) (own_w hw 55 rfl) (notFace_of_selects (args := #[]) (mvT hZ (own_w hw 57 rfl))) (own_w hw 57 rfl) (own_w hw 56 rfl) (own_w hw 33 rfl) (own_w hw 58 rfl) own_lm_258 (rmTN l Z a0 hw [] wcs hS b754 T756.heap n0 O761 F759) e760 F758 own_pd_261 (argsL := []) (rest := []) rfl rfl (g := (mkF m 156 #[.val (.int nb), .val (.int fl), .val (.int ca), .val (.int cb), .val (.int (fl &&& (3 : Int32))), .val (.int (1 : Int32)), .val .null, .val (.ref b754), .val (.int (0 : Int32))] [(.ref b754)])) rfl (by rw [hml]; rfl) rfl (hb hby at_156) (W := 0) rfl (by decide) (by decide) (by decide) (by decide)
      obtain ⟨rfl, M762, e762⟩ := hQ762
      have N762 := Fr.app N760 M762
      refine own_st (fun u_ k_ => st762 u_ k_) ?_
      show own_Go p e below _ (T762.setTop (mkF m 159 #[.val (.int nb), .val (.int fl), .val (.int ca), .val (.int cb), .val (.int (fl &&& (3 : Int32))), .val (.int (1 : Int32)), .val .null, .val (.ref b754), .val (.int (0 : Int32))] [.null]))
      refine own_st (fun u_ k_ => XS.ifnullYes X762.here hx rfl (pc0 := 159) (pc' := 166) rfl (hb hby at_159) rfl (by decide) (by decide) k_) ?_
      show own_Go p e below _ (T762.setTop (mkF m 166 #[.val (.int nb), .val (.int fl), .val (.int ca), .val (.int cb), .val (.int (fl &&& (3 : Int32))), .val (.int (1 : Int32)), .val .null, .val (.ref b754), .val (.int (0 : Int32))] []))
      refine own_st (fun u_ k_ => XS.iconst X762.here hx rfl (hb hby at_166) k_) ?_
      show own_Go p e below _ (T762.setTop (mkF m 167 #[.val (.int nb), .val (.int fl), .val (.int ca), .val (.int cb), .val (.int (fl &&& (3 : Int32))), .val (.int (1 : Int32)), .val .null, .val (.ref b754), .val (.int (0 : Int32))] [(.int (0 : Int32))]))
      refine own_st (fun u_ k_ => XS.iload X762.here hx rfl (hb hby at_167) rfl k_) ?_
      show own_Go p e below _ (T762.setTop (mkF m 169 #[.val (.int nb), .val (.int fl), .val (.int ca), .val (.int cb), .val (.int (fl &&& (3 : Int32))), .val (.int (1 : Int32)), .val .null, .val (.ref b754), .val (.int (0 : Int32))] [(.int (0 : Int32)), (.int (0 : Int32))]))
      refine own_st (fun u_ k_ => XS.icmpNo X762.here hx rfl (hb hby at_169) rfl (XT.ii_ne_f (by decide)) k_) ?_
      show own_Go p e below _ (T762.setTop (mkF m 172 #[.val (.int nb), .val (.int fl), .val (.int ca), .val (.int cb), .val (.int (fl &&& (3 : Int32))), .val (.int (1 : Int32)), .val .null, .val (.ref b754), .val (.int (0 : Int32))] []))
      refine own_st (fun u_ k_ => XS.iconst X762.here hx rfl (hb hby at_172) k_) ?_
      show own_Go p e below _ (T762.setTop (mkF m 173 #[.val (.int nb), .val (.int fl), .val (.int ca), .val (.int cb), .val (.int (fl &&& (3 : Int32))), .val (.int (1 : Int32)), .val .null, .val (.ref b754), .val (.int (0 : Int32))] [(.int (1 : Int32))]))
      refine own_st (fun u_ k_ => XS.goto X762.here hx rfl (pc0 := 173) (pc' := 177) rfl (hb hby at_173) (by decide) (by decide) k_) ?_
      show own_Go p e below _ (T762.setTop (mkF m 177 #[.val (.int nb), .val (.int fl), .val (.int ca), .val (.int cb), .val (.int (fl &&& (3 : Int32))), .val (.int (1 : Int32)), .val .null, .val (.ref b754), .val (.int (0 : Int32))] [(.int (1 : Int32))]))
      have K763 : Keep h0 h754 [] := (Keep.refl h0 []).ext E754
      have z765 : h0.size ≤ b754 := Nat.le_trans (Nat.le_refl _) (Nat.le_of_eq g754.symm)
      have K764 : Keep h0 T756.heap [] := K763.trans K756 (allS (Or.inr z765) all0)
      have R766 : CHr Z own_EL s.vm h0 s.vm h754 := R0.trans (CHr.ext E754 R0.1)
      have sf_768 : Safe Z own_EL s.vm h0 b754 := Safe.new (Nat.le_of_eq g754.symm)
      have sf_769 : Safe Z own_EL s.vm h754 b754 := Safe.ext E754 R0.1 sf_768
      have R767 : CHr Z own_EL s.vm h0 s.vm T756.heap := R766.trans (CHr.keep K756 (sfS sf_769 sf0) R766.1)
      exact own_retXH X762 hSi0 (Nat.le_trans (Nat.zero_le _) (Nat.le_trans E754.1 K756.1)) e762 hZ (own_hEL hw) hs0 R767 hx hlk hret rfl (Or.inl ⟨rfl, by simp, _, rfl⟩) (hb hby at_177) (by decide) (by decide) (show Qrm0 Z wcs nb fl ca cb h0 n0 (some (.int (1 : Int32))) T762.heap _ from (by rw [e762]; exact ⟨rfl, N762, K764⟩))
    · refine own_st (fun u_ k_ => XS.ifYes X0.here hx rfl (pc0 := 20) (pc' := 29) rfl (hb hby at_20) rfl (XT.i0_ne_t hc753) (by decide) (by decide) k_) ?_
      show own_Go p e below _ (s₁.setTop (mkF m 29 #[.val (.int nb), .val (.int fl), .val (.int ca), .val (.int cb), .val (.int (fl &&& (3 : Int32))), .val (.int (1 : Int32)), .unset, .unset, .unset] []))
      refine own_st (fun u_ k_ => XS.iload X0.here hx rfl (hb hby at_29) rfl k_) ?_
      show own_Go p e below _ (s₁.setTop (mkF m 31 #[.val (.int nb), .val (.int fl), .val (.int ca), .val (.int cb), .val (.int (fl &&& (3 : Int32))), .val (.int (1 : Int32)), .unset, .unset, .unset] [(.int (fl &&& (3 : Int32)))]))
      refine own_st (fun u_ k_ => XS.iconst X0.here hx rfl (hb hby at_31) k_) ?_
      show own_Go p e below _ (s₁.setTop (mkF m 32 #[.val (.int nb), .val (.int fl), .val (.int ca), .val (.int cb), .val (.int (fl &&& (3 : Int32))), .val (.int (1 : Int32)), .unset, .unset, .unset] [(.int (1 : Int32)), (.int (fl &&& (3 : Int32)))]))
      by_cases hc770 : (fl &&& (3 : Int32)) = (1 : Int32)
      · refine own_st (fun u_ k_ => XS.icmpNo X0.here hx rfl (hb hby at_32) rfl (XT.ii_ne_f hc770) k_) ?_
        show own_Go p e below _ (s₁.setTop (mkF m 35 #[.val (.int nb), .val (.int fl), .val (.int ca), .val (.int cb), .val (.int (fl &&& (3 : Int32))), .val (.int (1 : Int32)), .unset, .unset, .unset] []))
        obtain ⟨T771, h771, X771, e771, E771, A771, D771, U771, st771⟩ := newO X0 hx hZ hown (own_w hw 2 rfl) (own_w hw 3 rfl) (own_w hw 4 rfl) e0 (g := (mkF m 35 #[.val (.int nb), .val (.int fl), .val (.int ca), .val (.int cb), .val (.int (fl &&& (3 : Int32))), .val (.int (1 : Int32)), .unset, .unset, .unset] [])) rfl (hb hby at_35) (by decide) (by decide)
        obtain ⟨b771, g771⟩ : ∃ z, z = h0.size := ⟨_, rfl⟩
        rw [← g771] at A771 D771 U771 st771
        have F771_coder : Fld Z h771 b771 "java/lang/String" "coder" "B" (.int (0 : Int32)) := D771 (Or.inr (own_w hw 28 rfl)) (ty := .byte) own_lm_162
        have F771_value : Fld Z h771 b771 "java/lang/String" "value" "[B" .null := D771 (Or.inr (own_w hw 30 rfl)) (ty := (.array .byte)) own_lm_167
        refine own_st (fun u_ k_ => st771 u_ k_) ?_
        show own_Go p e below _ (T771.setTop (mkF m 38 #[.val (.int nb), .val (.int fl), .val (.int ca), .val (.int cb), .val (.int (fl &&& (3 : Int32))), .val (.int (1 : Int32)), .unset, .unset, .unset] [(.ref b771)]))
        refine own_st (fun u_ k_ => XS.dup X771.here hx rfl (hb hby at_38) rfl rfl k_) ?_
        show own_Go p e below _ (T771.setTop (mkF m 39 #[.val (.int nb), .val (.int fl), .val (.int ca), .val (.int cb), .val (.int (fl &&& (3 : Int32))), .val (.int (1 : Int32)), .unset, .unset, .unset] [(.ref b771), (.ref b771)]))
        refine own_st (fun u_ k_ => XS.iconst X771.here hx rfl (hb hby at_39) k_) ?_
        show own_Go p e below _ (T771.setTop (mkF m 40 #[.val (.int nb), .val (.int fl), .val (.int ca), .val (.int cb), .val (.int (fl &&& (3 : Int32))), .val (.int (1 : Int32)), .unset, .unset, .unset] [(.int (0 : Int32)), (.ref b771), (.ref b771)]))
        obtain ⟨T772, h772, k772, X772, e772, E772, A772, Y772, st772⟩ := newPE X771 hx hZ (own_w hw 0 rfl) e771 (g := (mkF m 40 #[.val (.int nb), .val (.int fl), .val (.int ca), .val (.int cb), .val (.int (fl &&& (3 : Int32))), .val (.int (1 : Int32)), .unset, .unset, .unset] [(.int (0 : Int32)), (.ref b771), (.ref b771)])) rfl (hb hby at_40) rfl (by decide) (cap := 0) (by decide) (by decide) (by decide) (by decide) (ad := "[C") own_lm_262
        obtain ⟨b772, g772⟩ : ∃ z, z = h771.size := ⟨_, rfl⟩
        rw [← g772] at A772 Y772 st772
        have V772 : Arv Z h772 b772 k772 .char (0 : Int32) [] (.int (0 : Int32)) := (Arv.new A772 (by decide)).pad (pad_rep [] (.int (0 : Int32)) 0)
        refine own_st (fun u_ k_ => st772 u_ k_) ?_
        show own_Go p e below _ (T772.setTop (mkF m 42 #[.val (.int nb), .val (.int fl), .val (.int ca), .val (.int cb), .val (.int (fl &&& (3 : Int32))), .val (.int (1 : Int32)), .unset, .unset, .unset] [(.ref b772), (.ref b771), (.ref b771)]))
        have F773 := (Exa.ext E772 A771)
        have g774 : n0 ≤ b771 := Nat.le_trans (own_nl O0) (Nat.le_of_eq g771.symm)
        have F775 := (Fld.ext E772 F771_value)
        have F776 := (Fld.ext E772 F771_coder)
        have O778 : Old Z n0 h771 := O0.ext E771
        have O779 : Old Z n0 h772 := O778.ext E772
        have sf_780 : Safe Z own_EL s.vm h0 b771 := Safe.new (Nat.le_of_eq g771.symm)
        have sf_781 : Safe Z own_EL s.vm h771 b771 := Safe.ext E771 R0.1 sf_780
        have R782 : CHr Z own_EL s.vm h0 s.vm h771 := R0.trans (CHr.ext E771 R0.1)
        have sf_783 : Safe Z own_EL s.vm h772 b771 := Safe.ext E772 R782.1 sf_781
        have R784 : CHr Z own_EL s.vm h0 s.vm h772 := R782.trans (CHr.ext E772 R782.1)
        obtain ⟨T777, v777, L777, X777, Si777, hZ777, hown777, hQ777, hr777, st777⟩ := own_callNH X772 hx hZ hSi0 (Nat.le_trans (Nat.zero_le _) (Nat.le_trans E771.1 E772.1)) (own_hEL hw) R784.1 (own_sfS F773.lt sf_783 own_sf0) (y := own_y_198) rfl hown (own_w hw 5 rfl) (own_w hw 6 rfl) (own_w hw 4 rfl) (own_w hw 7 rfl) own_lm_181 (rmS1_0 l Z a0 hw [] wcs hS b771 b772 k772 h772 n0 O779 F773 Y772 g774 F775 F776 V772) e772 own_pd_263 (a := b771) (argsL := [(.ref b772)]) (rest := [(.ref b771)]) rfl rfl (g := (mkF m 42 #[.val (.int nb), .val (.int fl), .val (.int ca), .val (.int cb), .val (.int (fl &&& (3 : Int32))), .val (.int (1 : Int32)), .unset, .unset, .unset] [(.ref b772), (.ref b771), (.ref b771)])) rfl (by rw [hml]; rfl) rfl (hb hby at_42) (W := 1) rfl (by decide) (by decide) (by decide) (by decide)
        obtain ⟨r_785, kr_786, rfl, M777, K777, F787, F788, F789, F790⟩ := hQ777
        have N777 := Fr.app N0 M777
        refine own_st (fun u_ k_ => st777 u_ k_) ?_
        show own_Go p e below _ (T777.setTop (mkF m 45 #[.val (.int nb), .val (.int fl), .val (.int ca), .val (.int cb), .val (.int (fl &&& (3 : Int32))), .val (.int (1 : Int32)), .unset, .unset, .unset] [(.ref b771)]))
        refine own_st (fun u_ k_ => XS.astore X777.here hx rfl (hb hby at_45) rfl rfl (l' := #[.val (.int nb), .val (.int fl), .val (.int ca), .val (.int cb), .val (.int (fl &&& (3 : Int32))), .val (.int (1 : Int32)), .val (.ref b771), .unset, .unset]) rfl k_) ?_
        show own_Go p e below _ (T777.setTop (mkF m 47 #[.val (.int nb), .val (.int fl), .val (.int ca), .val (.int cb), .val (.int (fl &&& (3 : Int32))), .val (.int (1 : Int32)), .val (.ref b771), .unset, .unset] []))
        refine own_st (fun u_ k_ => XS.goto X777.here hx rfl (pc0 := 47) (pc' := 118) rfl (hb hby at_47) (by decide) (by decide) k_) ?_
        show own_Go p e below _ (T777.setTop (mkF m 118 #[.val (.int nb), .val (.int fl), .val (.int ca), .val (.int cb), .val (.int (fl &&& (3 : Int32))), .val (.int (1 : Int32)), .val (.ref b771), .unset, .unset] []))
        obtain ⟨T791, h791, X791, e791, E791, A791, D791, U791, st791⟩ := newO X777 hx hZ777 hown777 (own_w hw 31 rfl) (own_w hw 32 rfl) (own_w hw 33 rfl) rfl (g := (mkF m 118 #[.val (.int nb), .val (.int fl), .val (.int ca), .val (.int cb), .val (.int (fl &&& (3 : Int32))), .val (.int (1 : Int32)), .val (.ref b771), .unset, .unset] [])) rfl (hb hby at_118) (by decide) (by decide)
        obtain ⟨b791, g791⟩ : ∃ z, z = T777.heap.size := ⟨_, rfl⟩
        rw [← g791] at A791 D791 U791 st791
        have F791_number : Fld Z h791 b791 "com/example/spulenwerk/spulenwerk/jsonlines/LineReader$Line" "number" "I" (.int (0 : Int32)) := D791 (Or.inr (own_w hw 44 rfl)) (ty := .int) own_lm_226
        have F791_text : Fld Z h791 b791 "com/example/spulenwerk/spulenwerk/jsonlines/LineReader$Line" "text" "Ljava/lang/String;" .null := D791 (Or.inr (own_w hw 46 rfl)) (ty := (.object "java/lang/String")) own_lm_231
        have F791_terminated : Fld Z h791 b791 "com/example/spulenwerk/spulenwerk/jsonlines/LineReader$Line" "terminated" "Z" (.int (0 : Int32)) := D791 (Or.inr (own_w hw 48 rfl)) (ty := .boolean) own_lm_237
        refine own_st (fun u_ k_ => st791 u_ k_) ?_
        show own_Go p e below _ (T791.setTop (mkF m 121 #[.val (.int nb), .val (.int fl), .val (.int ca), .val (.int cb), .val (.int (fl &&& (3 : Int32))), .val (.int (1 : Int32)), .val (.ref b771), .unset, .unset] [(.ref b791)]))
        refine own_st (fun u_ k_ => XS.dup X791.here hx rfl (hb hby at_121) rfl rfl k_) ?_
        show own_Go p e below _ (T791.setTop (mkF m 122 #[.val (.int nb), .val (.int fl), .val (.int ca), .val (.int cb), .val (.int (fl &&& (3 : Int32))), .val (.int (1 : Int32)), .val (.ref b771), .unset, .unset] [(.ref b791), (.ref b791)]))
        refine own_st (fun u_ k_ => XS.iloadN X791.here hx rfl (hb hby at_122) rfl k_) ?_
        show own_Go p e below _ (T791.setTop (mkF m 123 #[.val (.int nb), .val (.int fl), .val (.int ca), .val (.int cb), .val (.int (fl &&& (3 : Int32))), .val (.int (1 : Int32)), .val (.ref b771), .unset, .unset] [(.int nb), (.ref b791), (.ref b791)]))
        refine own_st (fun u_ k_ => XS.aload X791.here hx rfl (hb hby at_123) rfl rfl k_) ?_
        show own_Go p e below _ (T791.setTop (mkF m 125 #[.val (.int nb), .val (.int fl), .val (.int ca), .val (.int cb), .val (.int (fl &&& (3 : Int32))), .val (.int (1 : Int32)), .val (.ref b771), .unset, .unset] [(.ref b771), (.int nb), (.ref b791), (.ref b791)]))
        refine own_st (fun u_ k_ => XS.iload X791.here hx rfl (hb hby at_125) rfl k_) ?_
        show own_Go p e below _ (T791.setTop (mkF m 127 #[.val (.int nb), .val (.int fl), .val (.int ca), .val (.int cb), .val (.int (fl &&& (3 : Int32))), .val (.int (1 : Int32)), .val (.ref b771), .unset, .unset] [(.int (1 : Int32)), (.ref b771), (.int nb), (.ref b791), (.ref b791)]))
        have O793 : Old Z n0 T777.heap := O779.keep K777 (allS g774 all0)
        have g792 : n0 ≤ b791 := Nat.le_trans (own_nl O793) (Nat.le_of_eq g791.symm)
        have O795 : Old Z n0 h791 := O793.ext E791
        obtain ⟨T794, v794, L794, X794, hQ794, st794⟩ := own_callN X791 hx hZ777 (y := own_y_244) rfl hown777 (own_w hw 34 rfl) (own_w hw 35 rfl) (own_w hw 33 rfl) (own_w hw 36 rfl) own_lm_258 (rmL1 l Z a0 hw [] wcs hS b791 nb ((.ref b771) : Value) h791 n0 O795 A791 g792 rfl F791_number F791_text F791_terminated) e791 own_pd_259 (a := b791) (argsL := [(.int nb), (.ref b771), (.int (1 : Int32))]) (rest := [(.ref b791)]) rfl rfl (g := (mkF m 127 #[.val (.int nb), .val (.int fl), .val (.int ca), .val (.int cb), .val (.int (fl &&& (3 : Int32))), .val (.int (1 : Int32)), .val (.ref b771), .unset, .unset] [(.int (1 : Int32)), (.ref b771), (.int nb), (.ref b791), (.ref b791)])) rfl (by rw [hml]; rfl) rfl (hb hby at_127) (W := 1) rfl (by decide) (by decide) (by decide) (by decide)
        obtain ⟨rfl, M794, K794, F796, F797⟩ := hQ794
        have N794 := Fr.app N777 M794
        refine own_st (fun u_ k_ => st794 u_ k_) ?_
        show own_Go p e below _ (T794.setTop (mkF m 130 #[.val (.int nb), .val (.int fl), .val (.int ca), .val (.int cb), .val (.int (fl &&& (3 : Int32))), .val (.int (1 : Int32)), .val (.ref b771), .unset, .unset] [(.ref b791)]))
        refine own_st (fun u_ k_ => XS.astore X794.here hx rfl (hb hby at_130) rfl rfl (l' := #[.val (.int nb), .val (.int fl), .val (.int ca), .val (.int cb), .val (.int (fl &&& (3 : Int32))), .val (.int (1 : Int32)), .val (.ref b771), .val (.ref b791), .unset]) rfl k_) ?_
        show own_Go p e below _ (T794.setTop (mkF m 132 #[.val (.int nb), .val (.int fl), .val (.int ca), .val (.int cb), .val (.int (fl &&& (3 : Int32))), .val (.int (1 : Int32)), .val (.ref b771), .val (.ref b791), .unset] []))
        refine own_st (fun u_ k_ => XS.iload X794.here hx rfl (hb hby at_132) rfl k_) ?_
        show own_Go p e below _ (T794.setTop (mkF m 134 #[.val (.int nb), .val (.int fl), .val (.int ca), .val (.int cb), .val (.int (fl &&& (3 : Int32))), .val (.int (1 : Int32)), .val (.ref b771), .val (.ref b791), .unset] [(.int (fl &&& (3 : Int32)))]))
        refine own_st (fun u_ k_ => XS.ifNo X794.here hx rfl (hb hby at_134) rfl (XT.i0_eq_f hc753) k_) ?_
        show own_Go p e below _ (T794.setTop (mkF m 137 #[.val (.int nb), .val (.int fl), .val (.int ca), .val (.int cb), .val (.int (fl &&& (3 : Int32))), .val (.int (1 : Int32)), .val (.ref b771), .val (.ref b791), .unset] []))
        refine own_st (fun u_ k_ => XS.iconst X794.here hx rfl (hb hby at_137) k_) ?_
        show own_Go p e below _ (T794.setTop (mkF m 138 #[.val (.int nb), .val (.int fl), .val (.int ca), .val (.int cb), .val (.int (fl &&& (3 : Int32))), .val (.int (1 : Int32)), .val (.ref b771), .val (.ref b791), .unset] [(.int (1 : Int32))]))
        refine own_st (fun u_ k_ => XS.goto X794.here hx rfl (pc0 := 138) (pc' := 142) rfl (hb hby at_138) (by decide) (by decide) k_) ?_
        show own_Go p e below _ (T794.setTop (mkF m 142 #[.val (.int nb), .val (.int fl), .val (.int ca), .val (.int cb), .val (.int (fl &&& (3 : Int32))), .val (.int (1 : Int32)), .val (.ref b771), .val (.ref b791), .unset] [(.int (1 : Int32))]))
        refine own_st (fun u_ k_ => XS.istore X794.here hx rfl (hb hby at_142) rfl (l' := #[.val (.int nb), .val (.int fl), .val (.int ca), .val (.int cb), .val (.int (fl &&& (3 : Int32))), .val (.int (1 : Int32)), .val (.ref b771), .val (.ref b791), .val (.int (1 : Int32))]) rfl k_) ?_
        show own_Go p e below _ (T794.setTop (mkF m 144 #[.val (.int nb), .val (.int fl), .val (.int ca), .val (.int cb), .val (.int (fl &&& (3 : Int32))), .val (.int (1 : Int32)), .val (.ref b771), .val (.ref b791), .val (.int (1 : Int32))] []))
        refine own_st (fun u_ k_ => XS.aload X794.here hx rfl (hb hby at_144) rfl rfl k_) ?_
        show own_Go p e below _ (T794.setTop (mkF m 146 #[.val (.int nb), .val (.int fl), .val (.int ca), .val (.int cb), .val (.int (fl &&& (3 : Int32))), .val (.int (1 : Int32)), .val (.ref b771), .val (.ref b791), .val (.int (1 : Int32))] [(.ref b791)]))
        have O799 : Old Z n0 T794.heap := O795.keep K794 (allS g792 all0)
        obtain ⟨T798, v798, L798, X798, hQ798, st798⟩ := own_callV X794 hx hZ777 (y := own_y_251) (z := own_y_251) hown777 (own_w hw 49 rfl) (own_w hw 50 rfl) (notFace_of_selects (args := #[]) (mvT hZ777 (own_w hw 52 rfl))) (own_w hw 52 rfl) (own_w hw 51 rfl) (own_w hw 33 rfl) (own_w hw 53 rfl) own_lm_258 (rmIR l Z a0 hw [] wcs hS b791 b771 T794.heap n0 O799 F797) rfl F796 own_pd_260 (argsL := []) (rest := []) rfl rfl (g := (mkF m 146 #[.val (.int nb), .val (.int fl), .val (.int ca), .val (.int cb), .val (.int (fl &&& (3 : Int32))), .val (.int (1 : Int32)), .val (.ref b771), .val (.ref b791), .val (.int (1 : Int32))] [(.ref b791)])) rfl (by rw [hml]; rfl) rfl (hb hby at_146) (W := 0) rfl (by decide) (by decide) (by decide) (by decide)
        obtain ⟨rfl, M798, e798⟩ := hQ798
        have N798 := Fr.app N794 M798
        refine own_st (fun u_ k_ => st798 u_ k_) ?_
        show own_Go p e below _ (T798.setTop (mkF m 149 #[.val (.int nb), .val (.int fl), .val (.int ca), .val (.int cb), .val (.int (fl &&& (3 : Int32))), .val (.int (1 : Int32)), .val (.ref b771), .val (.ref b791), .val (.int (1 : Int32))] [(.int (1 : Int32))]))
        refine own_st (fun u_ k_ => XS.iload X798.here hx rfl (hb hby at_149) rfl k_) ?_
        show own_Go p e below _ (T798.setTop (mkF m 151 #[.val (.int nb), .val (.int fl), .val (.int ca), .val (.int cb), .val (.int (fl &&& (3 : Int32))), .val (.int (1 : Int32)), .val (.ref b771), .val (.ref b791), .val (.int (1 : Int32))] [(.int (1 : Int32)), (.int (1 : Int32))]))
        refine own_st (fun u_ k_ => XS.icmpNo X798.here hx rfl (hb hby at_151) rfl (XT.ii_ne_f (by decide)) k_) ?_
        show own_Go p e below _ (T798.setTop (mkF m 154 #[.val (.int nb), .val (.int fl), .val (.int ca), .val (.int cb), .val (.int (fl &&& (3 : Int32))), .val (.int (1 : Int32)), .val (.ref b771), .val (.ref b791), .val (.int (1 : Int32))] []))
        refine own_st (fun u_ k_ => XS.aload X798.here hx rfl (hb hby at_154) rfl rfl k_) ?_
        show own_Go p e below _ (T798.setTop (mkF m 156 #[.val (.int nb), .val (.int fl), .val (.int ca), .val (.int cb), .val (.int (fl &&& (3 : Int32))), .val (.int (1 : Int32)), .val (.ref b771), .val (.ref b791), .val (.int (1 : Int32))] [(.ref b791)]))
        obtain ⟨T800, v800, L800, X800, hQ800, st800⟩ := own_callV X798 hx hZ777 (y := own_y_255) (z := own_y_255) hown777 (own_w hw 54 rfl) (own_w hw 55 rfl) (notFace_of_selects (args := #[]) (mvT hZ777 (own_w hw 57 rfl))) (own_w hw 57 rfl) (own_w hw 56 rfl) (own_w hw 33 rfl) (own_w hw 58 rfl) own_lm_258 (rmTR l Z a0 hw [] wcs hS b791 b771 T794.heap n0 O799 F797) e798 F796 own_pd_261 (argsL := []) (rest := []) rfl rfl (g := (mkF m 156 #[.val (.int nb), .val (.int fl), .val (.int ca), .val (.int cb), .val (.int (fl &&& (3 : Int32))), .val (.int (1 : Int32)), .val (.ref b771), .val (.ref b791), .val (.int (1 : Int32))] [(.ref b791)])) rfl (by rw [hml]; rfl) rfl (hb hby at_156) (W := 0) rfl (by decide) (by decide) (by decide) (by decide)
        obtain ⟨rfl, M800, e800⟩ := hQ800
        have N800 := Fr.app N798 M800
        refine own_st (fun u_ k_ => st800 u_ k_) ?_
        show own_Go p e below _ (T800.setTop (mkF m 159 #[.val (.int nb), .val (.int fl), .val (.int ca), .val (.int cb), .val (.int (fl &&& (3 : Int32))), .val (.int (1 : Int32)), .val (.ref b771), .val (.ref b791), .val (.int (1 : Int32))] [(.ref b771)]))
        refine own_st (fun u_ k_ => XS.ifnullNo X800.here hx rfl (hb hby at_159) rfl k_) ?_
        show own_Go p e below _ (T800.setTop (mkF m 162 #[.val (.int nb), .val (.int fl), .val (.int ca), .val (.int cb), .val (.int (fl &&& (3 : Int32))), .val (.int (1 : Int32)), .val (.ref b771), .val (.ref b791), .val (.int (1 : Int32))] []))
        refine own_st (fun u_ k_ => XS.iconst X800.here hx rfl (hb hby at_162) k_) ?_
        show own_Go p e below _ (T800.setTop (mkF m 163 #[.val (.int nb), .val (.int fl), .val (.int ca), .val (.int cb), .val (.int (fl &&& (3 : Int32))), .val (.int (1 : Int32)), .val (.ref b771), .val (.ref b791), .val (.int (1 : Int32))] [(.int (1 : Int32))]))
        refine own_st (fun u_ k_ => XS.goto X800.here hx rfl (pc0 := 163) (pc' := 167) rfl (hb hby at_163) (by decide) (by decide) k_) ?_
        show own_Go p e below _ (T800.setTop (mkF m 167 #[.val (.int nb), .val (.int fl), .val (.int ca), .val (.int cb), .val (.int (fl &&& (3 : Int32))), .val (.int (1 : Int32)), .val (.ref b771), .val (.ref b791), .val (.int (1 : Int32))] [(.int (1 : Int32))]))
        refine own_st (fun u_ k_ => XS.iload X800.here hx rfl (hb hby at_167) rfl k_) ?_
        show own_Go p e below _ (T800.setTop (mkF m 169 #[.val (.int nb), .val (.int fl), .val (.int ca), .val (.int cb), .val (.int (fl &&& (3 : Int32))), .val (.int (1 : Int32)), .val (.ref b771), .val (.ref b791), .val (.int (1 : Int32))] [(.int (1 : Int32)), (.int (1 : Int32))]))
        refine own_st (fun u_ k_ => XS.icmpNo X800.here hx rfl (hb hby at_169) rfl (XT.ii_ne_f (by decide)) k_) ?_
        show own_Go p e below _ (T800.setTop (mkF m 172 #[.val (.int nb), .val (.int fl), .val (.int ca), .val (.int cb), .val (.int (fl &&& (3 : Int32))), .val (.int (1 : Int32)), .val (.ref b771), .val (.ref b791), .val (.int (1 : Int32))] []))
        refine own_st (fun u_ k_ => XS.iconst X800.here hx rfl (hb hby at_172) k_) ?_
        show own_Go p e below _ (T800.setTop (mkF m 173 #[.val (.int nb), .val (.int fl), .val (.int ca), .val (.int cb), .val (.int (fl &&& (3 : Int32))), .val (.int (1 : Int32)), .val (.ref b771), .val (.ref b791), .val (.int (1 : Int32))] [(.int (1 : Int32))]))
        refine own_st (fun u_ k_ => XS.goto X800.here hx rfl (pc0 := 173) (pc' := 177) rfl (hb hby at_173) (by decide) (by decide) k_) ?_
        show own_Go p e below _ (T800.setTop (mkF m 177 #[.val (.int nb), .val (.int fl), .val (.int ca), .val (.int cb), .val (.int (fl &&& (3 : Int32))), .val (.int (1 : Int32)), .val (.ref b771), .val (.ref b791), .val (.int (1 : Int32))] [(.int (1 : Int32))]))
        have K801 : Keep h0 h771 [] := (Keep.refl h0 []).ext E771
        have K802 : Keep h0 h772 [] := K801.ext E772
        have z804 : h0.size ≤ b771 := Nat.le_trans (Nat.le_refl _) (Nat.le_of_eq g771.symm)
        have K803 : Keep h0 T777.heap [] := K802.trans K777 (allS (Or.inr z804) all0)
        have K805 : Keep h0 h791 [] := K803.ext E791
        have z807 : h0.size ≤ b791 := Nat.le_trans (Nat.le_trans (Nat.le_trans E771.1 E772.1) K777.1) (Nat.le_of_eq g791.symm)
        have K806 : Keep h0 T794.heap [] := K805.trans K794 (allS (Or.inr z807) all0)
        have R808 : CHr Z own_EL s.vm h0 T777.vm T777.heap := R784.trans hr777
        have R809 : CHr Z own_EL s.vm h0 T777.vm h791 := R808.trans (CHr.ext E791 R808.1)
        have sf_811 : Safe Z own_EL T777.vm T777.heap b791 := Safe.new (Nat.le_of_eq g791.symm)
        have sf_812 : Safe Z own_EL T777.vm h791 b791 := Safe.ext E791 R808.1 sf_811
        have R810 : CHr Z own_EL s.vm h0 T777.vm T794.heap := R809.trans (CHr.keep K794 (sfS sf_812 sf0) R809.1)
        exact own_retXH X800 Si777 (Nat.le_trans (Nat.le_refl _) (Nat.le_trans E791.1 K794.1)) e800 hZ777 (own_hEL hw) hs0 R810 hx hlk hret rfl (Or.inl ⟨rfl, by simp, _, rfl⟩) (hb hby at_177) (by decide) (by decide) (show Qrm0 Z wcs nb fl ca cb h0 n0 (some (.int (1 : Int32))) T800.heap _ from (by rw [e800]; exact ⟨rfl, N800, K806⟩))
      · refine own_st (fun u_ k_ => XS.icmpYes X0.here hx rfl (pc0 := 32) (pc' := 50) rfl (hb hby at_32) rfl (XT.ii_ne_t hc770) (by decide) (by decide) k_) ?_
        show own_Go p e below _ (s₁.setTop (mkF m 50 #[.val (.int nb), .val (.int fl), .val (.int ca), .val (.int cb), .val (.int (fl &&& (3 : Int32))), .val (.int (1 : Int32)), .unset, .unset, .unset] []))
        refine own_st (fun u_ k_ => XS.iload X0.here hx rfl (hb hby at_50) rfl k_) ?_
        show own_Go p e below _ (s₁.setTop (mkF m 52 #[.val (.int nb), .val (.int fl), .val (.int ca), .val (.int cb), .val (.int (fl &&& (3 : Int32))), .val (.int (1 : Int32)), .unset, .unset, .unset] [(.int (fl &&& (3 : Int32)))]))
        refine own_st (fun u_ k_ => XS.iconst X0.here hx rfl (hb hby at_52) k_) ?_
        show own_Go p e below _ (s₁.setTop (mkF m 53 #[.val (.int nb), .val (.int fl), .val (.int ca), .val (.int cb), .val (.int (fl &&& (3 : Int32))), .val (.int (1 : Int32)), .unset, .unset, .unset] [(.int (2 : Int32)), (.int (fl &&& (3 : Int32)))]))
        by_cases hc813 : (fl &&& (3 : Int32)) = (2 : Int32)
        · refine own_st (fun u_ k_ => XS.icmpNo X0.here hx rfl (hb hby at_53) rfl (XT.ii_ne_f hc813) k_) ?_
          show own_Go p e below _ (s₁.setTop (mkF m 56 #[.val (.int nb), .val (.int fl), .val (.int ca), .val (.int cb), .val (.int (fl &&& (3 : Int32))), .val (.int (1 : Int32)), .unset, .unset, .unset] []))
          refine own_st (fun u_ k_ => XS.iconst X0.here hx rfl (hb hby at_56) k_) ?_
          show own_Go p e below _ (s₁.setTop (mkF m 57 #[.val (.int nb), .val (.int fl), .val (.int ca), .val (.int cb), .val (.int (fl &&& (3 : Int32))), .val (.int (1 : Int32)), .unset, .unset, .unset] [(.int (1 : Int32))]))
          obtain ⟨T814, h814, k814, X814, e814, E814, A814, Y814, st814⟩ := newPE X0 hx hZ (own_w hw 0 rfl) e0 (g := (mkF m 57 #[.val (.int nb), .val (.int fl), .val (.int ca), .val (.int cb), .val (.int (fl &&& (3 : Int32))), .val (.int (1 : Int32)), .unset, .unset, .unset] [(.int (1 : Int32))])) rfl (hb hby at_57) rfl (by decide) (cap := 1) (by decide) (by decide) (by decide) (by decide) (ad := "[C") own_lm_262
          obtain ⟨b814, g814⟩ : ∃ z, z = h0.size := ⟨_, rfl⟩
          rw [← g814] at A814 Y814 st814
          have V814 : Arv Z h814 b814 k814 .char (1 : Int32) [(.int (0 : Int32))] (.int (0 : Int32)) := (Arv.new A814 (by decide)).pad (pad_rep [] (.int (0 : Int32)) 1)
          refine own_st (fun u_ k_ => st814 u_ k_) ?_
          show own_Go p e below _ (T814.setTop (mkF m 59 #[.val (.int nb), .val (.int fl), .val (.int ca), .val (.int cb), .val (.int (fl &&& (3 : Int32))), .val (.int (1 : Int32)), .unset, .unset, .unset] [(.ref b814)]))
          refine own_st (fun u_ k_ => XS.astore X814.here hx rfl (hb hby at_59) rfl rfl (l' := #[.val (.int nb), .val (.int fl), .val (.int ca), .val (.int cb), .val (.int (fl &&& (3 : Int32))), .val (.int (1 : Int32)), .unset, .val (.ref b814), .unset]) rfl k_) ?_
          show own_Go p e below _ (T814.setTop (mkF m 61 #[.val (.int nb), .val (.int fl), .val (.int ca), .val (.int cb), .val (.int (fl &&& (3 : Int32))), .val (.int (1 : Int32)), .unset, .val (.ref b814), .unset] []))
          refine own_st (fun u_ k_ => XS.aload X814.here hx rfl (hb hby at_61) rfl rfl k_) ?_
          show own_Go p e below _ (T814.setTop (mkF m 63 #[.val (.int nb), .val (.int fl), .val (.int ca), .val (.int cb), .val (.int (fl &&& (3 : Int32))), .val (.int (1 : Int32)), .unset, .val (.ref b814), .unset] [(.ref b814)]))
          refine own_st (fun u_ k_ => XS.iconst X814.here hx rfl (hb hby at_63) k_) ?_
          show own_Go p e below _ (T814.setTop (mkF m 64 #[.val (.int nb), .val (.int fl), .val (.int ca), .val (.int cb), .val (.int (fl &&& (3 : Int32))), .val (.int (1 : Int32)), .unset, .val (.ref b814), .unset] [(.int (0 : Int32)), (.ref b814)]))
          refine own_st (fun u_ k_ => XS.iloadN X814.here hx rfl (hb hby at_64) rfl k_) ?_
          show own_Go p e below _ (T814.setTop (mkF m 65 #[.val (.int nb), .val (.int fl), .val (.int ca), .val (.int cb), .val (.int (fl &&& (3 : Int32))), .val (.int (1 : Int32)), .unset, .val (.ref b814), .unset] [(.int ca), (.int (0 : Int32)), (.ref b814)]))
          refine own_st (X814.ldcInt hx hown (mvT hZ (own_w hw 1 rfl)) (g := (mkF m 65 #[.val (.int nb), .val (.int fl), .val (.int ca), .val (.int cb), .val (.int (fl &&& (3 : Int32))), .val (.int (1 : Int32)), .unset, .val (.ref b814), .unset] [(.int ca), (.int (0 : Int32)), (.ref b814)])) rfl (hb hby at_65)) ?_
          show own_Go p e below _ (T814.setTop (mkF m 67 #[.val (.int nb), .val (.int fl), .val (.int ca), .val (.int cb), .val (.int (fl &&& (3 : Int32))), .val (.int (1 : Int32)), .unset, .val (.ref b814), .unset] [(.int (65535 : Int32)), (.int ca), (.int (0 : Int32)), (.ref b814)]))
          refine own_st (fun u_ k_ => XS.iand X814.here hx rfl (hb hby at_67) rfl k_) ?_
          show own_Go p e below _ (T814.setTop (mkF m 68 #[.val (.int nb), .val (.int fl), .val (.int ca), .val (.int cb), .val (.int (fl &&& (3 : Int32))), .val (.int (1 : Int32)), .unset, .val (.ref b814), .unset] [(.int (ca &&& (65535 : Int32))), (.int (0 : Int32)), (.ref b814)]))
          refine own_st (fun u_ k_ => XS.i2c X814.here hx rfl (hb hby at_68) rfl k_) ?_
          show own_Go p e below _ (T814.setTop (mkF m 69 #[.val (.int nb), .val (.int fl), .val (.int ca), .val (.int cb), .val (.int (fl &&& (3 : Int32))), .val (.int (1 : Int32)), .unset, .val (.ref b814), .unset] [(.int ((ca &&& (65535 : Int32)).toUInt32.toUInt16.toUInt32.toInt32)), (.int (0 : Int32)), (.ref b814)]))
          obtain ⟨cl815, Ar815, q815, S815, N815, H815, G815⟩ := id V814
          have hi815 : ¬ ((0 : Int32) < 0 ∨ cl815.slots.size ≤ ((0 : Int32)).toNatClampNeg) := inb_of S815 ⟨by decide, by decide⟩
          obtain ⟨T816, h816, X816, e816, W816, st816⟩ := stC X814 hx hZ e814 Ar815 (j := (0 : Int32)) hi815 (g := (mkF m 69 #[.val (.int nb), .val (.int fl), .val (.int ca), .val (.int cb), .val (.int (fl &&& (3 : Int32))), .val (.int (1 : Int32)), .unset, .val (.ref b814), .unset] [(.int ((ca &&& (65535 : Int32)).toUInt32.toUInt16.toUInt32.toInt32)), (.int (0 : Int32)), (.ref b814)])) rfl rfl (hb hby at_69)
          have g817 : n0 ≤ b814 := Nat.le_trans (own_nl O0) (Nat.le_of_eq g814.symm)
          have N816 := Fr.snoc X816 N0 g817
          have V816 : Arv Z h816 b814 k814 .char (1 : Int32) [(.int (nar .char ((ca &&& (65535 : Int32)).toUInt32.toUInt16.toUInt32.toInt32)))] (.int (0 : Int32)) := Arv.set Ar815 q815 S815 N815 H815 G815 (fits_nar_char _) W816 0 rfl (Nat.le_of_ble_eq_true rfl)
          refine own_st (fun u_ k_ => st816 u_ k_) ?_
          show own_Go p e below _ (T816.setTop (mkF m 70 #[.val (.int nb), .val (.int fl), .val (.int ca), .val (.int cb), .val (.int (fl &&& (3 : Int32))), .val (.int (1 : Int32)), .unset, .val (.ref b814), .unset] []))
          obtain ⟨T818, h818, X818, e818, E818, A818, D818, U818, st818⟩ := newO X816 hx hZ hown (own_w hw 2 rfl) (own_w hw 3 rfl) (own_w hw 4 rfl) e816 (g := (mkF m 70 #[.val (.int nb), .val (.int fl), .val (.int ca), .val (.int cb), .val (.int (fl &&& (3 : Int32))), .val (.int (1 : Int32)), .unset, .val (.ref b814), .unset] [])) rfl (hb hby at_70) (by decide) (by decide)
          obtain ⟨b818, g818⟩ : ∃ z, z = h816.size := ⟨_, rfl⟩
          rw [← g818] at A818 D818 U818 st818
          have F818_coder : Fld Z h818 b818 "java/lang/String" "coder" "B" (.int (0 : Int32)) := D818 (Or.inr (own_w hw 28 rfl)) (ty := .byte) own_lm_162
          have F818_value : Fld Z h818 b818 "java/lang/String" "value" "[B" .null := D818 (Or.inr (own_w hw 30 rfl)) (ty := (.array .byte)) own_lm_167
          refine own_st (fun u_ k_ => st818 u_ k_) ?_
          show own_Go p e below _ (T818.setTop (mkF m 73 #[.val (.int nb), .val (.int fl), .val (.int ca), .val (.int cb), .val (.int (fl &&& (3 : Int32))), .val (.int (1 : Int32)), .unset, .val (.ref b814), .unset] [(.ref b818)]))
          refine own_st (fun u_ k_ => XS.dup X818.here hx rfl (hb hby at_73) rfl rfl k_) ?_
          show own_Go p e below _ (T818.setTop (mkF m 74 #[.val (.int nb), .val (.int fl), .val (.int ca), .val (.int cb), .val (.int (fl &&& (3 : Int32))), .val (.int (1 : Int32)), .unset, .val (.ref b814), .unset] [(.ref b818), (.ref b818)]))
          refine own_st (fun u_ k_ => XS.aload X818.here hx rfl (hb hby at_74) rfl rfl k_) ?_
          show own_Go p e below _ (T818.setTop (mkF m 76 #[.val (.int nb), .val (.int fl), .val (.int ca), .val (.int cb), .val (.int (fl &&& (3 : Int32))), .val (.int (1 : Int32)), .unset, .val (.ref b814), .unset] [(.ref b814), (.ref b818), (.ref b818)]))
          have F819 := (Exa.ext E818 (Exa.wr W816 Y814))
          have O821 : Old Z n0 h814 := O0.ext E814
          have O822 : Old Z n0 h816 := O821.wr W816 g817
          have g820 : n0 ≤ b818 := Nat.le_trans (own_nl O822) (Nat.le_of_eq g818.symm)
          have F823 := (V816.ext E818)
          have O825 : Old Z n0 h818 := O822.ext E818
          obtain ⟨T824, v824, L824, X824, hQ824, st824⟩ := own_callN X818 hx hZ (y := own_y_198) rfl hown (own_w hw 5 rfl) (own_w hw 6 rfl) (own_w hw 4 rfl) (own_w hw 7 rfl) own_lm_181 (rmSJ_1 l Z a0 hw [] wcs hS b818 b814 k814 (nar .char ((ca &&& (65535 : Int32)).toUInt32.toUInt16.toUInt32.toInt32)) h818 n0 O825 A818 F819 g820 F818_value F818_coder F823 (own_c16 _)) e818 own_pd_263 (a := b818) (argsL := [(.ref b814)]) (rest := [(.ref b818)]) rfl rfl (g := (mkF m 76 #[.val (.int nb), .val (.int fl), .val (.int ca), .val (.int cb), .val (.int (fl &&& (3 : Int32))), .val (.int (1 : Int32)), .unset, .val (.ref b814), .unset] [(.ref b814), (.ref b818), (.ref b818)])) rfl (by rw [hml]; rfl) rfl (hb hby at_76) (W := 1) rfl (by decide) (by decide) (by decide) (by decide)
          obtain ⟨r_826, kr_827, cd_828, ln_829, us_830, rfl, M824, K824, z831, F832, F833, F834, F835, F836, pl_837⟩ := hQ824
          have N824 := Fr.app N816 M824
          refine own_st (fun u_ k_ => st824 u_ k_) ?_
          show own_Go p e below _ (T824.setTop (mkF m 79 #[.val (.int nb), .val (.int fl), .val (.int ca), .val (.int cb), .val (.int (fl &&& (3 : Int32))), .val (.int (1 : Int32)), .unset, .val (.ref b814), .unset] [(.ref b818)]))
          refine own_st (fun u_ k_ => XS.astore X824.here hx rfl (hb hby at_79) rfl rfl (l' := #[.val (.int nb), .val (.int fl), .val (.int ca), .val (.int cb), .val (.int (fl &&& (3 : Int32))), .val (.int (1 : Int32)), .val (.ref b818), .val (.ref b814), .unset]) rfl k_) ?_
          show own_Go p e below _ (T824.setTop (mkF m 81 #[.val (.int nb), .val (.int fl), .val (.int ca), .val (.int cb), .val (.int (fl &&& (3 : Int32))), .val (.int (1 : Int32)), .val (.ref b818), .val (.ref b814), .unset] []))
          refine own_st (fun u_ k_ => XS.goto X824.here hx rfl (pc0 := 81) (pc' := 118) rfl (hb hby at_81) (by decide) (by decide) k_) ?_
          show own_Go p e below _ (T824.setTop (mkF m 118 #[.val (.int nb), .val (.int fl), .val (.int ca), .val (.int cb), .val (.int (fl &&& (3 : Int32))), .val (.int (1 : Int32)), .val (.ref b818), .val (.ref b814), .unset] []))
          obtain ⟨T838, h838, X838, e838, E838, A838, D838, U838, st838⟩ := newO X824 hx hZ hown (own_w hw 31 rfl) (own_w hw 32 rfl) (own_w hw 33 rfl) rfl (g := (mkF m 118 #[.val (.int nb), .val (.int fl), .val (.int ca), .val (.int cb), .val (.int (fl &&& (3 : Int32))), .val (.int (1 : Int32)), .val (.ref b818), .val (.ref b814), .unset] [])) rfl (hb hby at_118) (by decide) (by decide)
          obtain ⟨b838, g838⟩ : ∃ z, z = T824.heap.size := ⟨_, rfl⟩
          rw [← g838] at A838 D838 U838 st838
          have F838_number : Fld Z h838 b838 "com/example/spulenwerk/spulenwerk/jsonlines/LineReader$Line" "number" "I" (.int (0 : Int32)) := D838 (Or.inr (own_w hw 44 rfl)) (ty := .int) own_lm_226
          have F838_text : Fld Z h838 b838 "com/example/spulenwerk/spulenwerk/jsonlines/LineReader$Line" "text" "Ljava/lang/String;" .null := D838 (Or.inr (own_w hw 46 rfl)) (ty := (.object "java/lang/String")) own_lm_231
          have F838_terminated : Fld Z h838 b838 "com/example/spulenwerk/spulenwerk/jsonlines/LineReader$Line" "terminated" "Z" (.int (0 : Int32)) := D838 (Or.inr (own_w hw 48 rfl)) (ty := .boolean) own_lm_237
          refine own_st (fun u_ k_ => st838 u_ k_) ?_
          show own_Go p e below _ (T838.setTop (mkF m 121 #[.val (.int nb), .val (.int fl), .val (.int ca), .val (.int cb), .val (.int (fl &&& (3 : Int32))), .val (.int (1 : Int32)), .val (.ref b818), .val (.ref b814), .unset] [(.ref b838)]))
          refine own_st (fun u_ k_ => XS.dup X838.here hx rfl (hb hby at_121) rfl rfl k_) ?_
          show own_Go p e below _ (T838.setTop (mkF m 122 #[.val (.int nb), .val (.int fl), .val (.int ca), .val (.int cb), .val (.int (fl &&& (3 : Int32))), .val (.int (1 : Int32)), .val (.ref b818), .val (.ref b814), .unset] [(.ref b838), (.ref b838)]))
          refine own_st (fun u_ k_ => XS.iloadN X838.here hx rfl (hb hby at_122) rfl k_) ?_
          show own_Go p e below _ (T838.setTop (mkF m 123 #[.val (.int nb), .val (.int fl), .val (.int ca), .val (.int cb), .val (.int (fl &&& (3 : Int32))), .val (.int (1 : Int32)), .val (.ref b818), .val (.ref b814), .unset] [(.int nb), (.ref b838), (.ref b838)]))
          refine own_st (fun u_ k_ => XS.aload X838.here hx rfl (hb hby at_123) rfl rfl k_) ?_
          show own_Go p e below _ (T838.setTop (mkF m 125 #[.val (.int nb), .val (.int fl), .val (.int ca), .val (.int cb), .val (.int (fl &&& (3 : Int32))), .val (.int (1 : Int32)), .val (.ref b818), .val (.ref b814), .unset] [(.ref b818), (.int nb), (.ref b838), (.ref b838)]))
          refine own_st (fun u_ k_ => XS.iload X838.here hx rfl (hb hby at_125) rfl k_) ?_
          show own_Go p e below _ (T838.setTop (mkF m 127 #[.val (.int nb), .val (.int fl), .val (.int ca), .val (.int cb), .val (.int (fl &&& (3 : Int32))), .val (.int (1 : Int32)), .val (.ref b818), .val (.ref b814), .unset] [(.int (1 : Int32)), (.ref b818), (.int nb), (.ref b838), (.ref b838)]))
          have O840 : Old Z n0 T824.heap := O825.keep K824 (allS g820 all0)
          have g839 : n0 ≤ b838 := Nat.le_trans (own_nl O840) (Nat.le_of_eq g838.symm)
          have O842 : Old Z n0 h838 := O840.ext E838
          obtain ⟨T841, v841, L841, X841, hQ841, st841⟩ := own_callN X838 hx hZ (y := own_y_244) rfl hown (own_w hw 34 rfl) (own_w hw 35 rfl) (own_w hw 33 rfl) (own_w hw 36 rfl) own_lm_258 (rmL1 l Z a0 hw [] wcs hS b838 nb ((.ref b818) : Value) h838 n0 O842 A838 g839 rfl F838_number F838_text F838_terminated) e838 own_pd_259 (a := b838) (argsL := [(.int nb), (.ref b818), (.int (1 : Int32))]) (rest := [(.ref b838)]) rfl rfl (g := (mkF m 127 #[.val (.int nb), .val (.int fl), .val (.int ca), .val (.int cb), .val (.int (fl &&& (3 : Int32))), .val (.int (1 : Int32)), .val (.ref b818), .val (.ref b814), .unset] [(.int (1 : Int32)), (.ref b818), (.int nb), (.ref b838), (.ref b838)])) rfl (by rw [hml]; rfl) rfl (hb hby at_127) (W := 1) rfl (by decide) (by decide) (by decide) (by decide)
          obtain ⟨rfl, M841, K841, F843, F844⟩ := hQ841
          have N841 := Fr.app N824 M841
          refine own_st (fun u_ k_ => st841 u_ k_) ?_
          show own_Go p e below _ (T841.setTop (mkF m 130 #[.val (.int nb), .val (.int fl), .val (.int ca), .val (.int cb), .val (.int (fl &&& (3 : Int32))), .val (.int (1 : Int32)), .val (.ref b818), .val (.ref b814), .unset] [(.ref b838)]))
          refine own_st (fun u_ k_ => XS.astore X841.here hx rfl (hb hby at_130) rfl rfl (l' := #[.val (.int nb), .val (.int fl), .val (.int ca), .val (.int cb), .val (.int (fl &&& (3 : Int32))), .val (.int (1 : Int32)), .val (.ref b818), .val (.ref b838), .unset]) rfl k_) ?_
          show own_Go p e below _ (T841.setTop (mkF m 132 #[.val (.int nb), .val (.int fl), .val (.int ca), .val (.int cb), .val (.int (fl &&& (3 : Int32))), .val (.int (1 : Int32)), .val (.ref b818), .val (.ref b838), .unset] []))
          refine own_st (fun u_ k_ => XS.iload X841.here hx rfl (hb hby at_132) rfl k_) ?_
          show own_Go p e below _ (T841.setTop (mkF m 134 #[.val (.int nb), .val (.int fl), .val (.int ca), .val (.int cb), .val (.int (fl &&& (3 : Int32))), .val (.int (1 : Int32)), .val (.ref b818), .val (.ref b838), .unset] [(.int (fl &&& (3 : Int32)))]))
          refine own_st (fun u_ k_ => XS.ifNo X841.here hx rfl (hb hby at_134) rfl (XT.i0_eq_f hc753) k_) ?_
          show own_Go p e below _ (T841.setTop (mkF m 137 #[.val (.int nb), .val (.int fl), .val (.int ca), .val (.int cb), .val (.int (fl &&& (3 : Int32))), .val (.int (1 : Int32)), .val (.ref b818), .val (.ref b838), .unset] []))
          refine own_st (fun u_ k_ => XS.iconst X841.here hx rfl (hb hby at_137) k_) ?_
          show own_Go p e below _ (T841.setTop (mkF m 138 #[.val (.int nb), .val (.int fl), .val (.int ca), .val (.int cb), .val (.int (fl &&& (3 : Int32))), .val (.int (1 : Int32)), .val (.ref b818), .val (.ref b838), .unset] [(.int (1 : Int32))]))
          refine own_st (fun u_ k_ => XS.goto X841.here hx rfl (pc0 := 138) (pc' := 142) rfl (hb hby at_138) (by decide) (by decide) k_) ?_
          show own_Go p e below _ (T841.setTop (mkF m 142 #[.val (.int nb), .val (.int fl), .val (.int ca), .val (.int cb), .val (.int (fl &&& (3 : Int32))), .val (.int (1 : Int32)), .val (.ref b818), .val (.ref b838), .unset] [(.int (1 : Int32))]))
          refine own_st (fun u_ k_ => XS.istore X841.here hx rfl (hb hby at_142) rfl (l' := #[.val (.int nb), .val (.int fl), .val (.int ca), .val (.int cb), .val (.int (fl &&& (3 : Int32))), .val (.int (1 : Int32)), .val (.ref b818), .val (.ref b838), .val (.int (1 : Int32))]) rfl k_) ?_
          show own_Go p e below _ (T841.setTop (mkF m 144 #[.val (.int nb), .val (.int fl), .val (.int ca), .val (.int cb), .val (.int (fl &&& (3 : Int32))), .val (.int (1 : Int32)), .val (.ref b818), .val (.ref b838), .val (.int (1 : Int32))] []))
          refine own_st (fun u_ k_ => XS.aload X841.here hx rfl (hb hby at_144) rfl rfl k_) ?_
          show own_Go p e below _ (T841.setTop (mkF m 146 #[.val (.int nb), .val (.int fl), .val (.int ca), .val (.int cb), .val (.int (fl &&& (3 : Int32))), .val (.int (1 : Int32)), .val (.ref b818), .val (.ref b838), .val (.int (1 : Int32))] [(.ref b838)]))
          have O846 : Old Z n0 T841.heap := O842.keep K841 (allS g839 all0)
          obtain ⟨T845, v845, L845, X845, hQ845, st845⟩ := own_callV X841 hx hZ (y := own_y_251) (z := own_y_251) hown (own_w hw 49 rfl) (own_w hw 50 rfl) (notFace_of_selects (args := #[]) (mvT hZ (own_w hw 52 rfl))) (own_w hw 52 rfl) (own_w hw 51 rfl) (own_w hw 33 rfl) (own_w hw 53 rfl) own_lm_258 (rmIR l Z a0 hw [] wcs hS b838 b818 T841.heap n0 O846 F844) rfl F843 own_pd_260 (argsL := []) (rest := []) rfl rfl (g := (mkF m 146 #[.val (.int nb), .val (.int fl), .val (.int ca), .val (.int cb), .val (.int (fl &&& (3 : Int32))), .val (.int (1 : Int32)), .val (.ref b818), .val (.ref b838), .val (.int (1 : Int32))] [(.ref b838)])) rfl (by rw [hml]; rfl) rfl (hb hby at_146) (W := 0) rfl (by decide) (by decide) (by decide) (by decide)
          obtain ⟨rfl, M845, e845⟩ := hQ845
          have N845 := Fr.app N841 M845
          refine own_st (fun u_ k_ => st845 u_ k_) ?_
          show own_Go p e below _ (T845.setTop (mkF m 149 #[.val (.int nb), .val (.int fl), .val (.int ca), .val (.int cb), .val (.int (fl &&& (3 : Int32))), .val (.int (1 : Int32)), .val (.ref b818), .val (.ref b838), .val (.int (1 : Int32))] [(.int (1 : Int32))]))
          refine own_st (fun u_ k_ => XS.iload X845.here hx rfl (hb hby at_149) rfl k_) ?_
          show own_Go p e below _ (T845.setTop (mkF m 151 #[.val (.int nb), .val (.int fl), .val (.int ca), .val (.int cb), .val (.int (fl &&& (3 : Int32))), .val (.int (1 : Int32)), .val (.ref b818), .val (.ref b838), .val (.int (1 : Int32))] [(.int (1 : Int32)), (.int (1 : Int32))]))
          refine own_st (fun u_ k_ => XS.icmpNo X845.here hx rfl (hb hby at_151) rfl (XT.ii_ne_f (by decide)) k_) ?_
          show own_Go p e below _ (T845.setTop (mkF m 154 #[.val (.int nb), .val (.int fl), .val (.int ca), .val (.int cb), .val (.int (fl &&& (3 : Int32))), .val (.int (1 : Int32)), .val (.ref b818), .val (.ref b838), .val (.int (1 : Int32))] []))
          refine own_st (fun u_ k_ => XS.aload X845.here hx rfl (hb hby at_154) rfl rfl k_) ?_
          show own_Go p e below _ (T845.setTop (mkF m 156 #[.val (.int nb), .val (.int fl), .val (.int ca), .val (.int cb), .val (.int (fl &&& (3 : Int32))), .val (.int (1 : Int32)), .val (.ref b818), .val (.ref b838), .val (.int (1 : Int32))] [(.ref b838)]))
          obtain ⟨T847, v847, L847, X847, hQ847, st847⟩ := own_callV X845 hx hZ (y := own_y_255) (z := own_y_255) hown (own_w hw 54 rfl) (own_w hw 55 rfl) (notFace_of_selects (args := #[]) (mvT hZ (own_w hw 57 rfl))) (own_w hw 57 rfl) (own_w hw 56 rfl) (own_w hw 33 rfl) (own_w hw 58 rfl) own_lm_258 (rmTR l Z a0 hw [] wcs hS b838 b818 T841.heap n0 O846 F844) e845 F843 own_pd_261 (argsL := []) (rest := []) rfl rfl (g := (mkF m 156 #[.val (.int nb), .val (.int fl), .val (.int ca), .val (.int cb), .val (.int (fl &&& (3 : Int32))), .val (.int (1 : Int32)), .val (.ref b818), .val (.ref b838), .val (.int (1 : Int32))] [(.ref b838)])) rfl (by rw [hml]; rfl) rfl (hb hby at_156) (W := 0) rfl (by decide) (by decide) (by decide) (by decide)
          obtain ⟨rfl, M847, e847⟩ := hQ847
          have N847 := Fr.app N845 M847
          refine own_st (fun u_ k_ => st847 u_ k_) ?_
          show own_Go p e below _ (T847.setTop (mkF m 159 #[.val (.int nb), .val (.int fl), .val (.int ca), .val (.int cb), .val (.int (fl &&& (3 : Int32))), .val (.int (1 : Int32)), .val (.ref b818), .val (.ref b838), .val (.int (1 : Int32))] [(.ref b818)]))
          refine own_st (fun u_ k_ => XS.ifnullNo X847.here hx rfl (hb hby at_159) rfl k_) ?_
          show own_Go p e below _ (T847.setTop (mkF m 162 #[.val (.int nb), .val (.int fl), .val (.int ca), .val (.int cb), .val (.int (fl &&& (3 : Int32))), .val (.int (1 : Int32)), .val (.ref b818), .val (.ref b838), .val (.int (1 : Int32))] []))
          refine own_st (fun u_ k_ => XS.iconst X847.here hx rfl (hb hby at_162) k_) ?_
          show own_Go p e below _ (T847.setTop (mkF m 163 #[.val (.int nb), .val (.int fl), .val (.int ca), .val (.int cb), .val (.int (fl &&& (3 : Int32))), .val (.int (1 : Int32)), .val (.ref b818), .val (.ref b838), .val (.int (1 : Int32))] [(.int (1 : Int32))]))
          refine own_st (fun u_ k_ => XS.goto X847.here hx rfl (pc0 := 163) (pc' := 167) rfl (hb hby at_163) (by decide) (by decide) k_) ?_
          show own_Go p e below _ (T847.setTop (mkF m 167 #[.val (.int nb), .val (.int fl), .val (.int ca), .val (.int cb), .val (.int (fl &&& (3 : Int32))), .val (.int (1 : Int32)), .val (.ref b818), .val (.ref b838), .val (.int (1 : Int32))] [(.int (1 : Int32))]))
          refine own_st (fun u_ k_ => XS.iload X847.here hx rfl (hb hby at_167) rfl k_) ?_
          show own_Go p e below _ (T847.setTop (mkF m 169 #[.val (.int nb), .val (.int fl), .val (.int ca), .val (.int cb), .val (.int (fl &&& (3 : Int32))), .val (.int (1 : Int32)), .val (.ref b818), .val (.ref b838), .val (.int (1 : Int32))] [(.int (1 : Int32)), (.int (1 : Int32))]))
          refine own_st (fun u_ k_ => XS.icmpNo X847.here hx rfl (hb hby at_169) rfl (XT.ii_ne_f (by decide)) k_) ?_
          show own_Go p e below _ (T847.setTop (mkF m 172 #[.val (.int nb), .val (.int fl), .val (.int ca), .val (.int cb), .val (.int (fl &&& (3 : Int32))), .val (.int (1 : Int32)), .val (.ref b818), .val (.ref b838), .val (.int (1 : Int32))] []))
          refine own_st (fun u_ k_ => XS.iconst X847.here hx rfl (hb hby at_172) k_) ?_
          show own_Go p e below _ (T847.setTop (mkF m 173 #[.val (.int nb), .val (.int fl), .val (.int ca), .val (.int cb), .val (.int (fl &&& (3 : Int32))), .val (.int (1 : Int32)), .val (.ref b818), .val (.ref b838), .val (.int (1 : Int32))] [(.int (1 : Int32))]))
          refine own_st (fun u_ k_ => XS.goto X847.here hx rfl (pc0 := 173) (pc' := 177) rfl (hb hby at_173) (by decide) (by decide) k_) ?_
          show own_Go p e below _ (T847.setTop (mkF m 177 #[.val (.int nb), .val (.int fl), .val (.int ca), .val (.int cb), .val (.int (fl &&& (3 : Int32))), .val (.int (1 : Int32)), .val (.ref b818), .val (.ref b838), .val (.int (1 : Int32))] [(.int (1 : Int32))]))
          have K848 : Keep h0 h814 [] := (Keep.refl h0 []).ext E814
          have z850 : h0.size ≤ b814 := Nat.le_trans (Nat.le_refl _) (Nat.le_of_eq g814.symm)
          have K849 : Keep h0 h816 [] := K848.wr W816 (Or.inr z850)
          have K851 : Keep h0 h818 [] := K849.ext E818
          have z853 : h0.size ≤ b818 := Nat.le_trans (Nat.le_trans E814.1 (Nat.le_of_eq W816.size.symm)) (Nat.le_of_eq g818.symm)
          have K852 : Keep h0 T824.heap [] := K851.trans K824 (allS (Or.inr z853) all0)
          have K854 : Keep h0 h838 [] := K852.ext E838
          have z856 : h0.size ≤ b838 := Nat.le_trans (Nat.le_trans (Nat.le_trans (Nat.le_trans E814.1 (Nat.le_of_eq W816.size.symm)) E818.1) K824.1) (Nat.le_of_eq g838.symm)
          have K855 : Keep h0 T841.heap [] := K854.trans K841 (allS (Or.inr z856) all0)
          have R857 : CHr Z own_EL s.vm h0 s.vm h814 := R0.trans (CHr.ext E814 R0.1)
          have sf_859 : Safe Z own_EL s.vm h814 b814 := Safe.exa hZ_0.alike Y814 own_lm_264 own_lm_202
          have R858 : CHr Z own_EL s.vm h0 s.vm h816 := R857.trans (CHr.wr W816 sf_859 R857.1)
          have R860 : CHr Z own_EL s.vm h0 s.vm h818 := R858.trans (CHr.ext E818 R858.1)
          have sf_862 : Safe Z own_EL s.vm h816 b818 := Safe.new (Nat.le_of_eq g818.symm)
          have sf_863 : Safe Z own_EL s.vm h818 b818 := Safe.ext E818 R858.1 sf_862
          have R861 : CHr Z own_EL s.vm h0 s.vm T824.heap := R860.trans (CHr.keep K824 (sfS sf_863 sf0) R860.1)
          have R864 : CHr Z own_EL s.vm h0 s.vm h838 := R861.trans (CHr.ext E838 R861.1)
          have sf_866 : Safe Z own_EL s.vm T824.heap b838 := Safe.new (Nat.le_of_eq g838.symm)
          have sf_867 : Safe Z own_EL s.vm h838 b838 := Safe.ext E838 R861.1 sf_866
          have R865 : CHr Z own_EL s.vm h0 s.vm T841.heap := R864.trans (CHr.keep K841 (sfS sf_867 sf0) R864.1)
          exact own_retXH X847 hSi0 (Nat.le_trans (Nat.zero_le _) (Nat.le_trans (Nat.le_trans (Nat.le_trans (Nat.le_trans (Nat.le_trans E814.1 (Nat.le_of_eq W816.size.symm)) E818.1) K824.1) E838.1) K841.1)) e847 hZ (own_hEL hw) hs0 R865 hx hlk hret rfl (Or.inl ⟨rfl, by simp, _, rfl⟩) (hb hby at_177) (by decide) (by decide) (show Qrm0 Z wcs nb fl ca cb h0 n0 (some (.int (1 : Int32))) T847.heap _ from (by rw [e847]; exact ⟨rfl, N847, K855⟩))
        · refine own_st (fun u_ k_ => XS.icmpYes X0.here hx rfl (pc0 := 53) (pc' := 84) rfl (hb hby at_53) rfl (XT.ii_ne_t hc813) (by decide) (by decide) k_) ?_
          show own_Go p e below _ (s₁.setTop (mkF m 84 #[.val (.int nb), .val (.int fl), .val (.int ca), .val (.int cb), .val (.int (fl &&& (3 : Int32))), .val (.int (1 : Int32)), .unset, .unset, .unset] []))
          refine own_st (fun u_ k_ => XS.iconst X0.here hx rfl (hb hby at_84) k_) ?_
          show own_Go p e below _ (s₁.setTop (mkF m 85 #[.val (.int nb), .val (.int fl), .val (.int ca), .val (.int cb), .val (.int (fl &&& (3 : Int32))), .val (.int (1 : Int32)), .unset, .unset, .unset] [(.int (2 : Int32))]))
          obtain ⟨T868, h868, k868, X868, e868, E868, A868, Y868, st868⟩ := newPE X0 hx hZ (own_w hw 0 rfl) e0 (g := (mkF m 85 #[.val (.int nb), .val (.int fl), .val (.int ca), .val (.int cb), .val (.int (fl &&& (3 : Int32))), .val (.int (1 : Int32)), .unset, .unset, .unset] [(.int (2 : Int32))])) rfl (hb hby at_85) rfl (by decide) (cap := 2) (by decide) (by decide) (by decide) (by decide) (ad := "[C") own_lm_262
          obtain ⟨b868, g868⟩ : ∃ z, z = h0.size := ⟨_, rfl⟩
          rw [← g868] at A868 Y868 st868
          have V868 : Arv Z h868 b868 k868 .char (2 : Int32) [(.int (0 : Int32)), (.int (0 : Int32))] (.int (0 : Int32)) := (Arv.new A868 (by decide)).pad (pad_rep [] (.int (0 : Int32)) 2)
          refine own_st (fun u_ k_ => st868 u_ k_) ?_
          show own_Go p e below _ (T868.setTop (mkF m 87 #[.val (.int nb), .val (.int fl), .val (.int ca), .val (.int cb), .val (.int (fl &&& (3 : Int32))), .val (.int (1 : Int32)), .unset, .unset, .unset] [(.ref b868)]))
          refine own_st (fun u_ k_ => XS.astore X868.here hx rfl (hb hby at_87) rfl rfl (l' := #[.val (.int nb), .val (.int fl), .val (.int ca), .val (.int cb), .val (.int (fl &&& (3 : Int32))), .val (.int (1 : Int32)), .unset, .val (.ref b868), .unset]) rfl k_) ?_
          show own_Go p e below _ (T868.setTop (mkF m 89 #[.val (.int nb), .val (.int fl), .val (.int ca), .val (.int cb), .val (.int (fl &&& (3 : Int32))), .val (.int (1 : Int32)), .unset, .val (.ref b868), .unset] []))
          refine own_st (fun u_ k_ => XS.aload X868.here hx rfl (hb hby at_89) rfl rfl k_) ?_
          show own_Go p e below _ (T868.setTop (mkF m 91 #[.val (.int nb), .val (.int fl), .val (.int ca), .val (.int cb), .val (.int (fl &&& (3 : Int32))), .val (.int (1 : Int32)), .unset, .val (.ref b868), .unset] [(.ref b868)]))
          refine own_st (fun u_ k_ => XS.iconst X868.here hx rfl (hb hby at_91) k_) ?_
          show own_Go p e below _ (T868.setTop (mkF m 92 #[.val (.int nb), .val (.int fl), .val (.int ca), .val (.int cb), .val (.int (fl &&& (3 : Int32))), .val (.int (1 : Int32)), .unset, .val (.ref b868), .unset] [(.int (0 : Int32)), (.ref b868)]))
          refine own_st (fun u_ k_ => XS.iloadN X868.here hx rfl (hb hby at_92) rfl k_) ?_
          show own_Go p e below _ (T868.setTop (mkF m 93 #[.val (.int nb), .val (.int fl), .val (.int ca), .val (.int cb), .val (.int (fl &&& (3 : Int32))), .val (.int (1 : Int32)), .unset, .val (.ref b868), .unset] [(.int ca), (.int (0 : Int32)), (.ref b868)]))
          refine own_st (X868.ldcInt hx hown (mvT hZ (own_w hw 1 rfl)) (g := (mkF m 93 #[.val (.int nb), .val (.int fl), .val (.int ca), .val (.int cb), .val (.int (fl &&& (3 : Int32))), .val (.int (1 : Int32)), .unset, .val (.ref b868), .unset] [(.int ca), (.int (0 : Int32)), (.ref b868)])) rfl (hb hby at_93)) ?_
          show own_Go p e below _ (T868.setTop (mkF m 95 #[.val (.int nb), .val (.int fl), .val (.int ca), .val (.int cb), .val (.int (fl &&& (3 : Int32))), .val (.int (1 : Int32)), .unset, .val (.ref b868), .unset] [(.int (65535 : Int32)), (.int ca), (.int (0 : Int32)), (.ref b868)]))
          refine own_st (fun u_ k_ => XS.iand X868.here hx rfl (hb hby at_95) rfl k_) ?_
          show own_Go p e below _ (T868.setTop (mkF m 96 #[.val (.int nb), .val (.int fl), .val (.int ca), .val (.int cb), .val (.int (fl &&& (3 : Int32))), .val (.int (1 : Int32)), .unset, .val (.ref b868), .unset] [(.int (ca &&& (65535 : Int32))), (.int (0 : Int32)), (.ref b868)]))
          refine own_st (fun u_ k_ => XS.i2c X868.here hx rfl (hb hby at_96) rfl k_) ?_
          show own_Go p e below _ (T868.setTop (mkF m 97 #[.val (.int nb), .val (.int fl), .val (.int ca), .val (.int cb), .val (.int (fl &&& (3 : Int32))), .val (.int (1 : Int32)), .unset, .val (.ref b868), .unset] [(.int ((ca &&& (65535 : Int32)).toUInt32.toUInt16.toUInt32.toInt32)), (.int (0 : Int32)), (.ref b868)]))
          obtain ⟨cl869, Ar869, q869, S869, N869, H869, G869⟩ := id V868
          have hi869 : ¬ ((0 : Int32) < 0 ∨ cl869.slots.size ≤ ((0 : Int32)).toNatClampNeg) := inb_of S869 ⟨by decide, by decide⟩
          obtain ⟨T870, h870, X870, e870, W870, st870⟩ := stC X868 hx hZ e868 Ar869 (j := (0 : Int32)) hi869 (g := (mkF m 97 #[.val (.int nb), .val (.int fl), .val (.int ca), .val (.int cb), .val (.int (fl &&& (3 : Int32))), .val (.int (1 : Int32)), .unset, .val (.ref b868), .unset] [(.int ((ca &&& (65535 : Int32)).toUInt32.toUInt16.toUInt32.toInt32)), (.int (0 : Int32)), (.ref b868)])) rfl rfl (hb hby at_97)
          have g871 : n0 ≤ b868 := Nat.le_trans (own_nl O0) (Nat.le_of_eq g868.symm)
          have N870 := Fr.snoc X870 N0 g871
          have V870 : Arv Z h870 b868 k868 .char (2 : Int32) [(.int (nar .char ((ca &&& (65535 : Int32)).toUInt32.toUInt16.toUInt32.toInt32))), (.int (0 : Int32))] (.int (0 : Int32)) := Arv.set Ar869 q869 S869 N869 H869 G869 (fits_nar_char _) W870 0 rfl (Nat.le_of_ble_eq_true rfl)
          refine own_st (fun u_ k_ => st870 u_ k_) ?_
          show own_Go p e below _ (T870.setTop (mkF m 98 #[.val (.int nb), .val (.int fl), .val (.int ca), .val (.int cb), .val (.int (fl &&& (3 : Int32))), .val (.int (1 : Int32)), .unset, .val (.ref b868), .unset] []))
          refine own_st (fun u_ k_ => XS.aload X870.here hx rfl (hb hby at_98) rfl rfl k_) ?_
          show own_Go p e below _ (T870.setTop (mkF m 100 #[.val (.int nb), .val (.int fl), .val (.int ca), .val (.int cb), .val (.int (fl &&& (3 : Int32))), .val (.int (1 : Int32)), .unset, .val (.ref b868), .unset] [(.ref b868)]))
          refine own_st (fun u_ k_ => XS.iconst X870.here hx rfl (hb hby at_100) k_) ?_
          show own_Go p e below _ (T870.setTop (mkF m 101 #[.val (.int nb), .val (.int fl), .val (.int ca), .val (.int cb), .val (.int (fl &&& (3 : Int32))), .val (.int (1 : Int32)), .unset, .val (.ref b868), .unset] [(.int (1 : Int32)), (.ref b868)]))
          refine own_st (fun u_ k_ => XS.iloadN X870.here hx rfl (hb hby at_101) rfl k_) ?_
          show own_Go p e below _ (T870.setTop (mkF m 102 #[.val (.int nb), .val (.int fl), .val (.int ca), .val (.int cb), .val (.int (fl &&& (3 : Int32))), .val (.int (1 : Int32)), .unset, .val (.ref b868), .unset] [(.int cb), (.int (1 : Int32)), (.ref b868)]))
          refine own_st (X870.ldcInt hx hown (mvT hZ (own_w hw 1 rfl)) (g := (mkF m 102 #[.val (.int nb), .val (.int fl), .val (.int ca), .val (.int cb), .val (.int (fl &&& (3 : Int32))), .val (.int (1 : Int32)), .unset, .val (.ref b868), .unset] [(.int cb), (.int (1 : Int32)), (.ref b868)])) rfl (hb hby at_102)) ?_
          show own_Go p e below _ (T870.setTop (mkF m 104 #[.val (.int nb), .val (.int fl), .val (.int ca), .val (.int cb), .val (.int (fl &&& (3 : Int32))), .val (.int (1 : Int32)), .unset, .val (.ref b868), .unset] [(.int (65535 : Int32)), (.int cb), (.int (1 : Int32)), (.ref b868)]))
          refine own_st (fun u_ k_ => XS.iand X870.here hx rfl (hb hby at_104) rfl k_) ?_
          show own_Go p e below _ (T870.setTop (mkF m 105 #[.val (.int nb), .val (.int fl), .val (.int ca), .val (.int cb), .val (.int (fl &&& (3 : Int32))), .val (.int (1 : Int32)), .unset, .val (.ref b868), .unset] [(.int (cb &&& (65535 : Int32))), (.int (1 : Int32)), (.ref b868)]))
          refine own_st (fun u_ k_ => XS.i2c X870.here hx rfl (hb hby at_105) rfl k_) ?_
          show own_Go p e below _ (T870.setTop (mkF m 106 #[.val (.int nb), .val (.int fl), .val (.int ca), .val (.int cb), .val (.int (fl &&& (3 : Int32))), .val (.int (1 : Int32)), .unset, .val (.ref b868), .unset] [(.int ((cb &&& (65535 : Int32)).toUInt32.toUInt16.toUInt32.toInt32)), (.int (1 : Int32)), (.ref b868)]))
          obtain ⟨cl872, Ar872, q872, S872, N872, H872, G872⟩ := id V870
          have hi872 : ¬ ((1 : Int32) < 0 ∨ cl872.slots.size ≤ ((1 : Int32)).toNatClampNeg) := inb_of S872 ⟨by decide, by decide⟩
          obtain ⟨T873, h873, X873, e873, W873, st873⟩ := stC X870 hx hZ e870 Ar872 (j := (1 : Int32)) hi872 (g := (mkF m 106 #[.val (.int nb), .val (.int fl), .val (.int ca), .val (.int cb), .val (.int (fl &&& (3 : Int32))), .val (.int (1 : Int32)), .unset, .val (.ref b868), .unset] [(.int ((cb &&& (65535 : Int32)).toUInt32.toUInt16.toUInt32.toInt32)), (.int (1 : Int32)), (.ref b868)])) rfl rfl (hb hby at_106)
          have N873 := Fr.snoc X873 N870 g871
          have V873 : Arv Z h873 b868 k868 .char (2 : Int32) [(.int (nar .char ((ca &&& (65535 : Int32)).toUInt32.toUInt16.toUInt32.toInt32))), (.int (nar .char ((cb &&& (65535 : Int32)).toUInt32.toUInt16.toUInt32.toInt32)))] (.int (0 : Int32)) := Arv.set Ar872 q872 S872 N872 H872 G872 (fits_nar_char _) W873 1 rfl (Nat.le_of_ble_eq_true rfl)
          refine own_st (fun u_ k_ => st873 u_ k_) ?_
          show own_Go p e below _ (T873.setTop (mkF m 107 #[.val (.int nb), .val (.int fl), .val (.int ca), .val (.int cb), .val (.int (fl &&& (3 : Int32))), .val (.int (1 : Int32)), .unset, .val (.ref b868), .unset] []))
          obtain ⟨T874, h874, X874, e874, E874, A874, D874, U874, st874⟩ := newO X873 hx hZ hown (own_w hw 2 rfl) (own_w hw 3 rfl) (own_w hw 4 rfl) e873 (g := (mkF m 107 #[.val (.int nb), .val (.int fl), .val (.int ca), .val (.int cb), .val (.int (fl &&& (3 : Int32))), .val (.int (1 : Int32)), .unset, .val (.ref b868), .unset] [])) rfl (hb hby at_107) (by decide) (by decide)
          obtain ⟨b874, g874⟩ : ∃ z, z = h873.size := ⟨_, rfl⟩
          rw [← g874] at A874 D874 U874 st874
          have F874_coder : Fld Z h874 b874 "java/lang/String" "coder" "B" (.int (0 : Int32)) := D874 (Or.inr (own_w hw 28 rfl)) (ty := .byte) own_lm_162
          have F874_value : Fld Z h874 b874 "java/lang/String" "value" "[B" .null := D874 (Or.inr (own_w hw 30 rfl)) (ty := (.array .byte)) own_lm_167
          refine own_st (fun u_ k_ => st874 u_ k_) ?_
          show own_Go p e below _ (T874.setTop (mkF m 110 #[.val (.int nb), .val (.int fl), .val (.int ca), .val (.int cb), .val (.int (fl &&& (3 : Int32))), .val (.int (1 : Int32)), .unset, .val (.ref b868), .unset] [(.ref b874)]))
          refine own_st (fun u_ k_ => XS.dup X874.here hx rfl (hb hby at_110) rfl rfl k_) ?_
          show own_Go p e below _ (T874.setTop (mkF m 111 #[.val (.int nb), .val (.int fl), .val (.int ca), .val (.int cb), .val (.int (fl &&& (3 : Int32))), .val (.int (1 : Int32)), .unset, .val (.ref b868), .unset] [(.ref b874), (.ref b874)]))
          refine own_st (fun u_ k_ => XS.aload X874.here hx rfl (hb hby at_111) rfl rfl k_) ?_
          show own_Go p e below _ (T874.setTop (mkF m 113 #[.val (.int nb), .val (.int fl), .val (.int ca), .val (.int cb), .val (.int (fl &&& (3 : Int32))), .val (.int (1 : Int32)), .unset, .val (.ref b868), .unset] [(.ref b868), (.ref b874), (.ref b874)]))
          have F875 := (Exa.ext E874 (Exa.wr W873 (Exa.wr W870 Y868)))
          have O877 : Old Z n0 h868 := O0.ext E868
          have O878 : Old Z n0 h870 := O877.wr W870 g871
          have O879 : Old Z n0 h873 := O878.wr W873 g871
          have g876 : n0 ≤ b874 := Nat.le_trans (own_nl O879) (Nat.le_of_eq g874.symm)
          have F880 := (V873.ext E874)
          have O882 : Old Z n0 h874 := O879.ext E874
          obtain ⟨T881, v881, L881, X881, hQ881, st881⟩ := own_callN X874 hx hZ (y := own_y_198) rfl hown (own_w hw 5 rfl) (own_w hw 6 rfl) (own_w hw 4 rfl) (own_w hw 7 rfl) own_lm_181 (rmSJ_2 l Z a0 hw [] wcs hS b874 b868 k868 (nar .char ((ca &&& (65535 : Int32)).toUInt32.toUInt16.toUInt32.toInt32)) (nar .char ((cb &&& (65535 : Int32)).toUInt32.toUInt16.toUInt32.toInt32)) h874 n0 O882 A874 F875 g876 F874_value F874_coder F880 (own_c16 _) (own_c16 _)) e874 own_pd_263 (a := b874) (argsL := [(.ref b868)]) (rest := [(.ref b874)]) rfl rfl (g := (mkF m 113 #[.val (.int nb), .val (.int fl), .val (.int ca), .val (.int cb), .val (.int (fl &&& (3 : Int32))), .val (.int (1 : Int32)), .unset, .val (.ref b868), .unset] [(.ref b868), (.ref b874), (.ref b874)])) rfl (by rw [hml]; rfl) rfl (hb hby at_113) (W := 1) rfl (by decide) (by decide) (by decide) (by decide)
          obtain ⟨r_883, kr_884, cd_885, ln_886, us_887, rfl, M881, K881, z888, F889, F890, F891, F892, F893, pl_894⟩ := hQ881
          have N881 := Fr.app N873 M881
          refine own_st (fun u_ k_ => st881 u_ k_) ?_
          show own_Go p e below _ (T881.setTop (mkF m 116 #[.val (.int nb), .val (.int fl), .val (.int ca), .val (.int cb), .val (.int (fl &&& (3 : Int32))), .val (.int (1 : Int32)), .unset, .val (.ref b868), .unset] [(.ref b874)]))
          refine own_st (fun u_ k_ => XS.astore X881.here hx rfl (hb hby at_116) rfl rfl (l' := #[.val (.int nb), .val (.int fl), .val (.int ca), .val (.int cb), .val (.int (fl &&& (3 : Int32))), .val (.int (1 : Int32)), .val (.ref b874), .val (.ref b868), .unset]) rfl k_) ?_
          show own_Go p e below _ (T881.setTop (mkF m 118 #[.val (.int nb), .val (.int fl), .val (.int ca), .val (.int cb), .val (.int (fl &&& (3 : Int32))), .val (.int (1 : Int32)), .val (.ref b874), .val (.ref b868), .unset] []))
          obtain ⟨T895, h895, X895, e895, E895, A895, D895, U895, st895⟩ := newO X881 hx hZ hown (own_w hw 31 rfl) (own_w hw 32 rfl) (own_w hw 33 rfl) rfl (g := (mkF m 118 #[.val (.int nb), .val (.int fl), .val (.int ca), .val (.int cb), .val (.int (fl &&& (3 : Int32))), .val (.int (1 : Int32)), .val (.ref b874), .val (.ref b868), .unset] [])) rfl (hb hby at_118) (by decide) (by decide)
          obtain ⟨b895, g895⟩ : ∃ z, z = T881.heap.size := ⟨_, rfl⟩
          rw [← g895] at A895 D895 U895 st895
          have F895_number : Fld Z h895 b895 "com/example/spulenwerk/spulenwerk/jsonlines/LineReader$Line" "number" "I" (.int (0 : Int32)) := D895 (Or.inr (own_w hw 44 rfl)) (ty := .int) own_lm_226
          have F895_text : Fld Z h895 b895 "com/example/spulenwerk/spulenwerk/jsonlines/LineReader$Line" "text" "Ljava/lang/String;" .null := D895 (Or.inr (own_w hw 46 rfl)) (ty := (.object "java/lang/String")) own_lm_231
          have F895_terminated : Fld Z h895 b895 "com/example/spulenwerk/spulenwerk/jsonlines/LineReader$Line" "terminated" "Z" (.int (0 : Int32)) := D895 (Or.inr (own_w hw 48 rfl)) (ty := .boolean) own_lm_237
          refine own_st (fun u_ k_ => st895 u_ k_) ?_
          show own_Go p e below _ (T895.setTop (mkF m 121 #[.val (.int nb), .val (.int fl), .val (.int ca), .val (.int cb), .val (.int (fl &&& (3 : Int32))), .val (.int (1 : Int32)), .val (.ref b874), .val (.ref b868), .unset] [(.ref b895)]))
          refine own_st (fun u_ k_ => XS.dup X895.here hx rfl (hb hby at_121) rfl rfl k_) ?_
          show own_Go p e below _ (T895.setTop (mkF m 122 #[.val (.int nb), .val (.int fl), .val (.int ca), .val (.int cb), .val (.int (fl &&& (3 : Int32))), .val (.int (1 : Int32)), .val (.ref b874), .val (.ref b868), .unset] [(.ref b895), (.ref b895)]))
          refine own_st (fun u_ k_ => XS.iloadN X895.here hx rfl (hb hby at_122) rfl k_) ?_
          show own_Go p e below _ (T895.setTop (mkF m 123 #[.val (.int nb), .val (.int fl), .val (.int ca), .val (.int cb), .val (.int (fl &&& (3 : Int32))), .val (.int (1 : Int32)), .val (.ref b874), .val (.ref b868), .unset] [(.int nb), (.ref b895), (.ref b895)]))
          refine own_st (fun u_ k_ => XS.aload X895.here hx rfl (hb hby at_123) rfl rfl k_) ?_
          show own_Go p e below _ (T895.setTop (mkF m 125 #[.val (.int nb), .val (.int fl), .val (.int ca), .val (.int cb), .val (.int (fl &&& (3 : Int32))), .val (.int (1 : Int32)), .val (.ref b874), .val (.ref b868), .unset] [(.ref b874), (.int nb), (.ref b895), (.ref b895)]))
          refine own_st (fun u_ k_ => XS.iload X895.here hx rfl (hb hby at_125) rfl k_) ?_
          show own_Go p e below _ (T895.setTop (mkF m 127 #[.val (.int nb), .val (.int fl), .val (.int ca), .val (.int cb), .val (.int (fl &&& (3 : Int32))), .val (.int (1 : Int32)), .val (.ref b874), .val (.ref b868), .unset] [(.int (1 : Int32)), (.ref b874), (.int nb), (.ref b895), (.ref b895)]))
          have O897 : Old Z n0 T881.heap := O882.keep K881 (allS g876 all0)
          have g896 : n0 ≤ b895 := Nat.le_trans (own_nl O897) (Nat.le_of_eq g895.symm)
          have O899 : Old Z n0 h895 := O897.ext E895
          obtain ⟨T898, v898, L898, X898, hQ898, st898⟩ := own_callN X895 hx hZ (y := own_y_244) rfl hown (own_w hw 34 rfl) (own_w hw 35 rfl) (own_w hw 33 rfl) (own_w hw 36 rfl) own_lm_258 (rmL1 l Z a0 hw [] wcs hS b895 nb ((.ref b874) : Value) h895 n0 O899 A895 g896 rfl F895_number F895_text F895_terminated) e895 own_pd_259 (a := b895) (argsL := [(.int nb), (.ref b874), (.int (1 : Int32))]) (rest := [(.ref b895)]) rfl rfl (g := (mkF m 127 #[.val (.int nb), .val (.int fl), .val (.int ca), .val (.int cb), .val (.int (fl &&& (3 : Int32))), .val (.int (1 : Int32)), .val (.ref b874), .val (.ref b868), .unset] [(.int (1 : Int32)), (.ref b874), (.int nb), (.ref b895), (.ref b895)])) rfl (by rw [hml]; rfl) rfl (hb hby at_127) (W := 1) rfl (by decide) (by decide) (by decide) (by decide)
          obtain ⟨rfl, M898, K898, F900, F901⟩ := hQ898
          have N898 := Fr.app N881 M898
          refine own_st (fun u_ k_ => st898 u_ k_) ?_
          show own_Go p e below _ (T898.setTop (mkF m 130 #[.val (.int nb), .val (.int fl), .val (.int ca), .val (.int cb), .val (.int (fl &&& (3 : Int32))), .val (.int (1 : Int32)), .val (.ref b874), .val (.ref b868), .unset] [(.ref b895)]))
          refine own_st (fun u_ k_ => XS.astore X898.here hx rfl (hb hby at_130) rfl rfl (l' := #[.val (.int nb), .val (.int fl), .val (.int ca), .val (.int cb), .val (.int (fl &&& (3 : Int32))), .val (.int (1 : Int32)), .val (.ref b874), .val (.ref b895), .unset]) rfl k_) ?_
          show own_Go p e below _ (T898.setTop (mkF m 132 #[.val (.int nb), .val (.int fl), .val (.int ca), .val (.int cb), .val (.int (fl &&& (3 : Int32))), .val (.int (1 : Int32)), .val (.ref b874), .val (.ref b895), .unset] []))
          refine own_st (fun u_ k_ => XS.iload X898.here hx rfl (hb hby at_132) rfl k_) ?_
          show own_Go p e below _ (T898.setTop (mkF m 134 #[.val (.int nb), .val (.int fl), .val (.int ca), .val (.int cb), .val (.int (fl &&& (3 : Int32))), .val (.int (1 : Int32)), .val (.ref b874), .val (.ref b895), .unset] [(.int (fl &&& (3 : Int32)))]))
          refine own_st (fun u_ k_ => XS.ifNo X898.here hx rfl (hb hby at_134) rfl (XT.i0_eq_f hc753) k_) ?_
          show own_Go p e below _ (T898.setTop (mkF m 137 #[.val (.int nb), .val (.int fl), .val (.int ca), .val (.int cb), .val (.int (fl &&& (3 : Int32))), .val (.int (1 : Int32)), .val (.ref b874), .val (.ref b895), .unset] []))
          refine own_st (fun u_ k_ => XS.iconst X898.here hx rfl (hb hby at_137) k_) ?_
          show own_Go p e below _ (T898.setTop (mkF m 138 #[.val (.int nb), .val (.int fl), .val (.int ca), .val (.int cb), .val (.int (fl &&& (3 : Int32))), .val (.int (1 : Int32)), .val (.ref b874), .val (.ref b895), .unset] [(.int (1 : Int32))]))
          refine own_st (fun u_ k_ => XS.goto X898.here hx rfl (pc0 := 138) (pc' := 142) rfl (hb hby at_138) (by decide) (by decide) k_) ?_
          show own_Go p e below _ (T898.setTop (mkF m 142 #[.val (.int nb), .val (.int fl), .val (.int ca), .val (.int cb), .val (.int (fl &&& (3 : Int32))), .val (.int (1 : Int32)), .val (.ref b874), .val (.ref b895), .unset] [(.int (1 : Int32))]))
          refine own_st (fun u_ k_ => XS.istore X898.here hx rfl (hb hby at_142) rfl (l' := #[.val (.int nb), .val (.int fl), .val (.int ca), .val (.int cb), .val (.int (fl &&& (3 : Int32))), .val (.int (1 : Int32)), .val (.ref b874), .val (.ref b895), .val (.int (1 : Int32))]) rfl k_) ?_
          show own_Go p e below _ (T898.setTop (mkF m 144 #[.val (.int nb), .val (.int fl), .val (.int ca), .val (.int cb), .val (.int (fl &&& (3 : Int32))), .val (.int (1 : Int32)), .val (.ref b874), .val (.ref b895), .val (.int (1 : Int32))] []))
          refine own_st (fun u_ k_ => XS.aload X898.here hx rfl (hb hby at_144) rfl rfl k_) ?_
          show own_Go p e below _ (T898.setTop (mkF m 146 #[.val (.int nb), .val (.int fl), .val (.int ca), .val (.int cb), .val (.int (fl &&& (3 : Int32))), .val (.int (1 : Int32)), .val (.ref b874), .val (.ref b895), .val (.int (1 : Int32))] [(.ref b895)]))
          have O903 : Old Z n0 T898.heap := O899.keep K898 (allS g896 all0)
          obtain ⟨T902, v902, L902, X902, hQ902, st902⟩ := own_callV X898 hx hZ (y := own_y_251) (z := own_y_251) hown (own_w hw 49 rfl) (own_w hw 50 rfl) (notFace_of_selects (args := #[]) (mvT hZ (own_w hw 52 rfl))) (own_w hw 52 rfl) (own_w hw 51 rfl) (own_w hw 33 rfl) (own_w hw 53 rfl) own_lm_258 (rmIR l Z a0 hw [] wcs hS b895 b874 T898.heap n0 O903 F901) rfl F900 own_pd_260 (argsL := []) (rest := []) rfl rfl (g := (mkF m 146 #[.val (.int nb), .val (.int fl), .val (.int ca), .val (.int cb), .val (.int (fl &&& (3 : Int32))), .val (.int (1 : Int32)), .val (.ref b874), .val (.ref b895), .val (.int (1 : Int32))] [(.ref b895)])) rfl (by rw [hml]; rfl) rfl (hb hby at_146) (W := 0) rfl (by decide) (by decide) (by decide) (by decide)
          obtain ⟨rfl, M902, e902⟩ := hQ902
          have N902 := Fr.app N898 M902
          refine own_st (fun u_ k_ => st902 u_ k_) ?_
          show own_Go p e below _ (T902.setTop (mkF m 149 #[.val (.int nb), .val (.int fl), .val (.int ca), .val (.int cb), .val (.int (fl &&& (3 : Int32))), .val (.int (1 : Int32)), .val (.ref b874), .val (.ref b895), .val (.int (1 : Int32))] [(.int (1 : Int32))]))
          refine own_st (fun u_ k_ => XS.iload X902.here hx rfl (hb hby at_149) rfl k_) ?_
          show own_Go p e below _ (T902.setTop (mkF m 151 #[.val (.int nb), .val (.int fl), .val (.int ca), .val (.int cb), .val (.int (fl &&& (3 : Int32))), .val (.int (1 : Int32)), .val (.ref b874), .val (.ref b895), .val (.int (1 : Int32))] [(.int (1 : Int32)), (.int (1 : Int32))]))
          refine own_st (fun u_ k_ => XS.icmpNo X902.here hx rfl (hb hby at_151) rfl (XT.ii_ne_f (by decide)) k_) ?_
          show own_Go p e below _ (T902.setTop (mkF m 154 #[.val (.int nb), .val (.int fl), .val (.int ca), .val (.int cb), .val (.int (fl &&& (3 : Int32))), .val (.int (1 : Int32)), .val (.ref b874), .val (.ref b895), .val (.int (1 : Int32))] []))
          refine own_st (fun u_ k_ => XS.aload X902.here hx rfl (hb hby at_154) rfl rfl k_) ?_
          show own_Go p e below _ (T902.setTop (mkF m 156 #[.val (.int nb), .val (.int fl), .val (.int ca), .val (.int cb), .val (.int (fl &&& (3 : Int32))), .val (.int (1 : Int32)), .val (.ref b874), .val (.ref b895), .val (.int (1 : Int32))] [(.ref b895)]))
          obtain ⟨T904, v904, L904, X904, hQ904, st904⟩ := own_callV X902 hx hZ (y := own_y_255) (z := own_y_255) hown (own_w hw 54 rfl) (own_w hw 55 rfl) (notFace_of_selects (args := #[]) (mvT hZ (own_w hw 57 rfl))) (own_w hw 57 rfl) (own_w hw 56 rfl) (own_w hw 33 rfl) (own_w hw 58 rfl) own_lm_258 (rmTR l Z a0 hw [] wcs hS b895 b874 T898.heap n0 O903 F901) e902 F900 own_pd_261 (argsL := []) (rest := []) rfl rfl (g := (mkF m 156 #[.val (.int nb), .val (.int fl), .val (.int ca), .val (.int cb), .val (.int (fl &&& (3 : Int32))), .val (.int (1 : Int32)), .val (.ref b874), .val (.ref b895), .val (.int (1 : Int32))] [(.ref b895)])) rfl (by rw [hml]; rfl) rfl (hb hby at_156) (W := 0) rfl (by decide) (by decide) (by decide) (by decide)
          obtain ⟨rfl, M904, e904⟩ := hQ904
          have N904 := Fr.app N902 M904
          refine own_st (fun u_ k_ => st904 u_ k_) ?_
          show own_Go p e below _ (T904.setTop (mkF m 159 #[.val (.int nb), .val (.int fl), .val (.int ca), .val (.int cb), .val (.int (fl &&& (3 : Int32))), .val (.int (1 : Int32)), .val (.ref b874), .val (.ref b895), .val (.int (1 : Int32))] [(.ref b874)]))
          refine own_st (fun u_ k_ => XS.ifnullNo X904.here hx rfl (hb hby at_159) rfl k_) ?_
          show own_Go p e below _ (T904.setTop (mkF m 162 #[.val (.int nb), .val (.int fl), .val (.int ca), .val (.int cb), .val (.int (fl &&& (3 : Int32))), .val (.int (1 : Int32)), .val (.ref b874), .val (.ref b895), .val (.int (1 : Int32))] []))
          refine own_st (fun u_ k_ => XS.iconst X904.here hx rfl (hb hby at_162) k_) ?_
          show own_Go p e below _ (T904.setTop (mkF m 163 #[.val (.int nb), .val (.int fl), .val (.int ca), .val (.int cb), .val (.int (fl &&& (3 : Int32))), .val (.int (1 : Int32)), .val (.ref b874), .val (.ref b895), .val (.int (1 : Int32))] [(.int (1 : Int32))]))
          refine own_st (fun u_ k_ => XS.goto X904.here hx rfl (pc0 := 163) (pc' := 167) rfl (hb hby at_163) (by decide) (by decide) k_) ?_
          show own_Go p e below _ (T904.setTop (mkF m 167 #[.val (.int nb), .val (.int fl), .val (.int ca), .val (.int cb), .val (.int (fl &&& (3 : Int32))), .val (.int (1 : Int32)), .val (.ref b874), .val (.ref b895), .val (.int (1 : Int32))] [(.int (1 : Int32))]))
          refine own_st (fun u_ k_ => XS.iload X904.here hx rfl (hb hby at_167) rfl k_) ?_
          show own_Go p e below _ (T904.setTop (mkF m 169 #[.val (.int nb), .val (.int fl), .val (.int ca), .val (.int cb), .val (.int (fl &&& (3 : Int32))), .val (.int (1 : Int32)), .val (.ref b874), .val (.ref b895), .val (.int (1 : Int32))] [(.int (1 : Int32)), (.int (1 : Int32))]))
          refine own_st (fun u_ k_ => XS.icmpNo X904.here hx rfl (hb hby at_169) rfl (XT.ii_ne_f (by decide)) k_) ?_
          show own_Go p e below _ (T904.setTop (mkF m 172 #[.val (.int nb), .val (.int fl), .val (.int ca), .val (.int cb), .val (.int (fl &&& (3 : Int32))), .val (.int (1 : Int32)), .val (.ref b874), .val (.ref b895), .val (.int (1 : Int32))] []))
          refine own_st (fun u_ k_ => XS.iconst X904.here hx rfl (hb hby at_172) k_) ?_
          show own_Go p e below _ (T904.setTop (mkF m 173 #[.val (.int nb), .val (.int fl), .val (.int ca), .val (.int cb), .val (.int (fl &&& (3 : Int32))), .val (.int (1 : Int32)), .val (.ref b874), .val (.ref b895), .val (.int (1 : Int32))] [(.int (1 : Int32))]))
          refine own_st (fun u_ k_ => XS.goto X904.here hx rfl (pc0 := 173) (pc' := 177) rfl (hb hby at_173) (by decide) (by decide) k_) ?_
          show own_Go p e below _ (T904.setTop (mkF m 177 #[.val (.int nb), .val (.int fl), .val (.int ca), .val (.int cb), .val (.int (fl &&& (3 : Int32))), .val (.int (1 : Int32)), .val (.ref b874), .val (.ref b895), .val (.int (1 : Int32))] [(.int (1 : Int32))]))
          have K905 : Keep h0 h868 [] := (Keep.refl h0 []).ext E868
          have z907 : h0.size ≤ b868 := Nat.le_trans (Nat.le_refl _) (Nat.le_of_eq g868.symm)
          have K906 : Keep h0 h870 [] := K905.wr W870 (Or.inr z907)
          have K908 : Keep h0 h873 [] := K906.wr W873 (Or.inr z907)
          have K909 : Keep h0 h874 [] := K908.ext E874
          have z911 : h0.size ≤ b874 := Nat.le_trans (Nat.le_trans (Nat.le_trans E868.1 (Nat.le_of_eq W870.size.symm)) (Nat.le_of_eq W873.size.symm)) (Nat.le_of_eq g874.symm)
          have K910 : Keep h0 T881.heap [] := K909.trans K881 (allS (Or.inr z911) all0)
          have K912 : Keep h0 h895 [] := K910.ext E895
          have z914 : h0.size ≤ b895 := Nat.le_trans (Nat.le_trans (Nat.le_trans (Nat.le_trans (Nat.le_trans E868.1 (Nat.le_of_eq W870.size.symm)) (Nat.le_of_eq W873.size.symm)) E874.1) K881.1) (Nat.le_of_eq g895.symm)
          have K913 : Keep h0 T898.heap [] := K912.trans K898 (allS (Or.inr z914) all0)
          have R915 : CHr Z own_EL s.vm h0 s.vm h868 := R0.trans (CHr.ext E868 R0.1)
          have sf_917 : Safe Z own_EL s.vm h868 b868 := Safe.exa hZ_0.alike Y868 own_lm_264 own_lm_202
          have R916 : CHr Z own_EL s.vm h0 s.vm h870 := R915.trans (CHr.wr W870 sf_917 R915.1)
          have F919 := (Exa.wr W870 Y868)
          have sf_920 : Safe Z own_EL s.vm h870 b868 := Safe.exa hZ_0.alike F919 own_lm_264 own_lm_202
          have R918 : CHr Z own_EL s.vm h0 s.vm h873 := R916.trans (CHr.wr W873 sf_920 R916.1)
          have R921 : CHr Z own_EL s.vm h0 s.vm h874 := R918.trans (CHr.ext E874 R918.1)
          have sf_923 : Safe Z own_EL s.vm h873 b874 := Safe.new (Nat.le_of_eq g874.symm)
          have sf_924 : Safe Z own_EL s.vm h874 b874 := Safe.ext E874 R918.1 sf_923
          have R922 : CHr Z own_EL s.vm h0 s.vm T881.heap := R921.trans (CHr.keep K881 (sfS sf_924 sf0) R921.1)
          have R925 : CHr Z own_EL s.vm h0 s.vm h895 := R922.trans (CHr.ext E895 R922.1)
          have sf_927 : Safe Z own_EL s.vm T881.heap b895 := Safe.new (Nat.le_of_eq g895.symm)
          have sf_928 : Safe Z own_EL s.vm h895 b895 := Safe.ext E895 R922.1 sf_927
          have R926 : CHr Z own_EL s.vm h0 s.vm T898.heap := R925.trans (CHr.keep K898 (sfS sf_928 sf0) R925.1)
          exact own_retXH X904 hSi0 (Nat.le_trans (Nat.zero_le _) (Nat.le_trans (Nat.le_trans (Nat.le_trans (Nat.le_trans (Nat.le_trans (Nat.le_trans E868.1 (Nat.le_of_eq W870.size.symm)) (Nat.le_of_eq W873.size.symm)) E874.1) K881.1) E895.1) K898.1)) e904 hZ (own_hEL hw) hs0 R926 hx hlk hret rfl (Or.inl ⟨rfl, by simp, _, rfl⟩) (hb hby at_177) (by decide) (by decide) (show Qrm0 Z wcs nb fl ca cb h0 n0 (some (.int (1 : Int32))) T904.heap _ from (by rw [e904]; exact ⟨rfl, N904, K913⟩))
set_option maxRecDepth 65536 in
set_option maxHeartbeats 40000000 in
theorem comes_1 {Post : Tables → Env → Array Value → State → Outcome → State → Prop} (hpost : ∀ tb e args s v u, (limb_1_1.after args s (.returned v) u = true ∧ limb_1_2.after args s (.returned v) u = true ∧ True) → ReturnedEndW s (.returned v) u (Jvm.fieldLocs frame_1_writes args s ++ Jvm.arrayLocs frame_1_arrays args s ++ Jvm.staticLocs frame_1_statics s) 24 1152 → Post tb e args s (.returned v) u) :
    ArmFor flags0 classFile x code maxLocals ret World_1 tables_1 room_1 Calls_1 rest_1 Pre_1 Post := by
  intro l hfl _ _ p e ha hc hk s m args below hf hA hF happ hP
  obtain ⟨hcalls, hrest, hpre⟩ := hP
  obtain ⟨-, -, -, hnamed, -, -, -, hat⟩ := (Spec.applies_iff hf).mp happ
  obtain ⟨hg, hn⟩ := and_e (Cond.before_iff.mp (show (Jvm.Cond.and given_1 narrow_1).before args s = true from hpre))
  obtain ⟨hcount, hr0⟩ := and_e hg
  obtain ⟨ha0, hr1⟩ := and_e hr0
  obtain ⟨ha1, hr2⟩ := and_e hr1
  obtain ⟨ha2, hr3⟩ := and_e hr2
  have ha3 := hr3
  obtain ⟨w_0, w_1, w_2, w_3, rfl⟩ : ∃ w_0 w_1 w_2 w_3 : Value, args = #[w_0, w_1, w_2, w_3] := by
    have hs : args.size = 4 := by simpa [Cond.value, given_1] using hcount
    obtain ⟨L⟩ := args
    match L, hs with
    | [w_0, w_1, w_2, w_3], _ => exact ⟨w_0, w_1, w_2, w_3, rfl⟩
  have hw := fun d (hd : d ∈ tables_1) => atoms_spec (ws := Jvm.Cond.code x code maxLocals ret :: tables_1) hat d (List.mem_cons_of_mem _ hd)
  have hfit : Fit s := fun {y c} hc i hi => by
    obtain ⟨ha, rfl⟩ := Array.getElem?_eq_some_iff.mp hc
    have q := List.all_eq_true.mp ((Array.all_eq_true_iff_forall_mem.mp hF) _ (Array.getElem_mem ha)) i (List.mem_range.mpr hi)
    simpa [Array.getElem?_eq_getElem hi] using q
  obtain ⟨i_0, ei_0⟩ := is_v ha0
  obtain rfl : w_0 = (.int i_0) := Option.some.inj ei_0
  obtain ⟨i_1, ei_1⟩ := is_v ha1
  obtain rfl : w_1 = (.int i_1) := Option.some.inj ei_1
  obtain ⟨i_2, ei_2⟩ := is_v ha2
  obtain rfl : w_2 = (.int i_2) := Option.some.inj ei_2
  obtain ⟨i_3, ei_3⟩ := is_v ha3
  obtain rfl : w_3 = (.int i_3) := Option.some.inj ei_3
  obtain ⟨hsets, hown0⟩ := atoms_of _ (rest_1_c_eq ▸ (show rest_1_c.before _ s = true from hrest))
  obtain ⟨wcs, ecs⟩ := is_v (Cond.before_iff.mp (hsets _ (List.mem_of_getElem? (i := 1) rfl)))
  have hcs := own_stne ecs (Cond.before_iff.mp (hsets _ (List.mem_of_getElem? (i := 2) rfl)))
  have hCH : CHv s own_EL s.vm s.heap := CHv.start (own_hEL hw) (fun p hp => hcalls.1 p hp) (hsets _ (List.mem_of_getElem? (i := 2) rfl)) (own_w hw 20 rfl) (own_w hw 3 rfl)
  have hS : own_S s wcs := ⟨(Sta.start ecs (Or.inl (hsets _ (List.mem_of_getElem? (i := 0) rfl)))), hcs, (Sta.start (own_steq (Cond.before_iff.mp (hsets _ (List.mem_of_getElem? (i := 12) rfl)))) (Or.inl (hsets _ (List.mem_of_getElem? (i := 11) rfl)))), (Sta.start (own_steq (Cond.before_iff.mp (hsets _ (List.mem_of_getElem? (i := 15) rfl)))) (Or.inl (hsets _ (List.mem_of_getElem? (i := 14) rfl)))), (Sta.start (own_steq (Cond.before_iff.mp (hsets _ (List.mem_of_getElem? (i := 18) rfl)))) (Or.inl (hsets _ (List.mem_of_getElem? (i := 17) rfl))))⟩
  obtain ⟨n, o, h1, h2, h3, _, L, rfl, ⟨rfl, N, _⟩, -, hq⟩ := rm0 l s _ hw tables_1 wcs hS i_0 i_1 i_2 i_3 s.heap s.heap.size (Old.start s) p e ha hc hk s m _ below hf ((Spec.applies_iff_loose hf).mp happ).1 ⟨rfl, State.Warmed39.refl s, rfl, hCH, sf0⟩ trivial
  refine ⟨n, _, h1, h2, h3, hpost _ _ _ _ _ _ ⟨Cond.after_iff.mpr rfl, Cond.after_iff.mpr (eq_i res_at (Term.int_eval (1)) rfl), trivial⟩ ⟨hq.1, hq.2.1, hq.2.2.1, (hq.2.2.2.sift fun y hy => Or.inr (N y hy)).mono (by decide) (by decide)⟩⟩
theorem main_1_1 : Claimed_1_1 := comes_1 fun _ _ _ _ _ _ h hF => ⟨h.1, hF⟩
theorem main_1_2 : Claimed_1_2 := comes_1 fun _ _ _ _ _ _ h hF => ⟨h.2.1, hF⟩
end Jvm.Pilot.@@N@@
namespace Jvm.Pilot.@@N@@
open Jvm Jvm.ClassFile Sem Op Lib Jvm.Free Jvm.Stand Jvm.Pilot.@@N@@.Jvm.D
/-! MADE BY PROGRAM (witnessworld.py) out of the Statement's table words and the real class files: 21 classes; the members and pool entries that the words name. The judged class is class 1, her method 1. -/
namespace start1
open Jvm.ClassFile
def u (s : String) : CpInfo := .utf8 (stringToUtf16 s)
/-- a pool by its gaps: so many unusable entries, then the entry; so many at the end -/
def gap : Nat → List CpInfo → List CpInfo
  | 0, r => r
  | n + 1, r => .unusable :: gap n r
def poolList (es : List (Nat × CpInfo)) (last : Nat) : List CpInfo := es.foldr (fun e r => gap e.1 (e.2 :: r)) (gap last [])
def pool (es : List (Nat × CpInfo)) (last : Nat) : Array CpInfo := ⟨poolList es last⟩
def fileOf (pool : Array CpInfo) (this : Nat) (attrs : Array Attribute := #[]) (ms : Array MethodInfo := #[]) (fl : Nat := 33) (sup : Nat := 0) (ifs : Array Nat := #[]) (fds : Array FieldInfo := #[]) : ClassFile where
  minorVersion := 0
  majorVersion := 65
  constantPool := pool
  accessFlags := fl
  thisClass := this
  superClass := sup
  interfaces := ifs
  fields := fds
  methods := ms
  attributes := attrs
def plain (name : String) (sup : Option ClassId) : Class where
  name := name
  kind := .ordinary
  loader := none
  accessFlags := 33
  super := sup
  interfaces := #[]
  cf := none
  fields := #[]
  methods := #[]
  instanceTypes := #[]
  staticTypes := #[]
  resolved := #[]
  callSites := []
  init := .initialized
  statics := none
  mirror := none

def pool0 : Array CpInfo := pool [(5, u "<init>"), (0, u "()V"), (1, .class_ 10), (1, u "java/lang/Object")] 113

def k0c0 : Code := { maxStack := 0, maxLocals := 1, code := object_method_1_code, exceptionTable := #[], attributes := #[] }
def k0m0 : Method := { name := "<init>", desc := "()V", sig := { parameters := [], returnType := none }, accessFlags := 1, code := some k0c0 }
/-- java/lang/Object -/
def k0 : Class := { plain "java/lang/Object" none with
  accessFlags := 33
  interfaces := #[]
  cf := some (fileOf pool0 8 #[] #[{ accessFlags := 1, nameIndex := 5, descriptorIndex := 6, attributes := #[] }] 33 0 #[] #[])
  fields := #[]
  methods := #[k0m0]
  instanceTypes := #[]
  staticTypes := #[]
  resolved := Array.replicate 124 none
  statics := none }

def pool1 : Array CpInfo := pool [(2, .class_ 4), (1, u "java/lang/Object"), (0, u "<init>"), (0, u "()V"), (0, .class_ 8), (0, u "java/lang/String"), (0, .methodref 7 10), (0, .nameAndType 5 11), (0, u "([C)V"), (0, .integer 65535), (0, .class_ 14), (0, u "com/example/spulenwerk/spulenwerk/jsonlines/LineReader$Line"), (0, .methodref 13 16), (0, .nameAndType 5 17), (0, u "(ILjava/lang/String;Z)V"), (0, .methodref 13 19), (0, .nameAndType 20 21), (0, u "isText"), (0, u "()Z"), (0, .methodref 13 23), (0, .nameAndType 24 25), (0, u "text"), (0, u "()Ljava/lang/String;"), (0, .class_ 27), (0, u "com/example/spulenwerk/spulenwerk/jsonlines/LineIsTextPinLaw"), (2, u "law"), (0, u "(IIII)Z")] 7

def k1m0 : Method := { name := "<init>", desc := "()V", sig := { parameters := [], returnType := none }, accessFlags := 1, code := none }
def k1c1 : Code := { maxStack := 5, maxLocals := 9, code := code, exceptionTable := #[], attributes := #[] }
def k1m1 : Method := { name := "law", desc := "(IIII)Z", sig := { parameters := [.int, .int, .int, .int], returnType := some .boolean }, accessFlags := 9, code := some k1c1 }
/-- com/example/spulenwerk/spulenwerk/jsonlines/LineIsTextPinLaw -/
def k1 : Class := { plain "com/example/spulenwerk/spulenwerk/jsonlines/LineIsTextPinLaw" (some 0) with
  accessFlags := 49
  interfaces := #[]
  cf := some (fileOf pool1 26 #[] #[{ accessFlags := 1, nameIndex := 5, descriptorIndex := 6, attributes := #[] }, { accessFlags := 9, nameIndex := 30, descriptorIndex := 31, attributes := #[] }] 49 2 #[] #[])
  fields := #[]
  methods := #[k1m0, k1m1]
  instanceTypes := #[]
  staticTypes := #[]
  resolved := Array.replicate 39 none
  statics := none }

def pool2 : Array CpInfo := pool [(1, .class_ 2), (0, u "java/io/Serializable"), (0, .class_ 4), (0, u "java/lang/Object")] 2

/-- java/io/Serializable -/
def k2 : Class := { plain "java/io/Serializable" (some 0) with
  accessFlags := 1537
  interfaces := #[]
  cf := some (fileOf pool2 1 #[] #[] 1537 3 #[] #[])
  fields := #[]
  methods := #[]
  instanceTypes := #[]
  staticTypes := #[]
  resolved := Array.replicate 7 none
  statics := none }

def pool3 : Array CpInfo := pool [(1, .class_ 2), (0, u "java/lang/Comparable"), (0, .class_ 4), (0, u "java/lang/Object")] 7

/-- java/lang/Comparable -/
def k3 : Class := { plain "java/lang/Comparable" (some 0) with
  accessFlags := 1537
  interfaces := #[]
  cf := some (fileOf pool3 1 #[] #[] 1537 3 #[] #[])
  fields := #[]
  methods := #[]
  instanceTypes := #[]
  staticTypes := #[]
  resolved := Array.replicate 12 none
  statics := none }

def pool4 : Array CpInfo := pool [(2, .class_ 4), (1, u "java/lang/CharSequence"), (42, .class_ 48), (0, u "java/lang/CharSequence$1CodePointIterator"), (10, .class_ 60), (0, u "java/lang/CharSequence$1CharIterator"), (5, .class_ 67), (0, u "java/lang/Object")] 63

/-- java/lang/CharSequence -/
def k4 : Class := { plain "java/lang/CharSequence" (some 0) with
  accessFlags := 1537
  interfaces := #[]
  cf := some (fileOf pool4 2 #[.nestMembers #[47, 59]] #[] 1537 66 #[] #[])
  fields := #[]
  methods := #[]
  instanceTypes := #[]
  staticTypes := #[]
  resolved := Array.replicate 131 none
  statics := none }

def pool5 : Array CpInfo := pool [(1, .class_ 2), (0, u "java/lang/constant/Constable"), (0, .class_ 4), (0, u "java/lang/Object")] 6

/-- java/lang/constant/Constable -/
def k5 : Class := { plain "java/lang/constant/Constable" (some 0) with
  accessFlags := 1537
  interfaces := #[]
  cf := some (fileOf pool5 1 #[] #[] 1537 3 #[] #[])
  fields := #[]
  methods := #[]
  instanceTypes := #[]
  staticTypes := #[]
  resolved := Array.replicate 11 none
  statics := none }

def pool6 : Array CpInfo := pool [(1, .class_ 2), (0, u "java/lang/constant/ConstantDesc"), (0, .class_ 4), (0, u "java/lang/Object")] 32

/-- java/lang/constant/ConstantDesc -/
def k6 : Class := { plain "java/lang/constant/ConstantDesc" (some 0) with
  accessFlags := 1537
  interfaces := #[]
  cf := some (fileOf pool6 1 #[] #[] 1537 3 #[] #[])
  fields := #[]
  methods := #[]
  instanceTypes := #[]
  staticTypes := #[]
  resolved := Array.replicate 37 none
  statics := none }

def pool7 : Array CpInfo := pool [(1, .methodref 2 3), (0, .class_ 4), (0, .nameAndType 5 6), (0, u "java/lang/Object"), (0, u "<init>"), (0, u "()V"), (0, .string 8), (0, u ""), (0, .fieldref 10 11), (0, .class_ 12), (0, .nameAndType 13 14), (0, u "java/lang/String"), (0, u "value"), (0, u "[B"), (0, .fieldref 10 16), (0, .nameAndType 17 18), (0, u "coder"), (0, u "B"), (2, u "hash"), (0, u "I"), (2, u "hashIsZero"), (0, u "Z"), (0, .methodref 10 28), (0, .nameAndType 5 29), (0, u "([CIILjava/lang/Void;)V"), (8, .fieldref 10 39), (0, .nameAndType 40 26), (0, u "COMPACT_STRINGS"), (1, .class_ 44), (1, u "java/lang/StringUTF16"), (0, u "compress"), (1, .methodref 42 48), (0, .nameAndType 49 50), (0, u "coderFromArrayLen"), (0, u "([BI)B"), (126, .methodref 42 178), (0, .nameAndType 45 179), (0, u "([CII)[B"), (395, .class_ 576), (0, u "java/lang/CharSequence"), (22, u "CASE_INSENSITIVE_ORDER"), (0, u "Ljava/util/Comparator;"), (409, u "([C)V"), (90, u "serialPersistentFields"), (0, u "[Ljava/io/ObjectStreamField;"), (0, .class_ 1104), (0, u "java/lang/String$CaseInsensitiveComparator"), (1, .class_ 1107), (0, u "java/io/Serializable"), (0, .class_ 1109), (0, u "java/lang/Comparable"), (0, .class_ 1111), (0, u "java/lang/constant/Constable"), (0, .class_ 1113), (0, u "java/lang/constant/ConstantDesc"), (2, u "serialVersionUID"), (0, u "J"), (3, u "REPL"), (0, u "C"), (2, u "LATIN1"), (1, u "UTF16")] 323

def k7m0 : Method := { name := "<init>", desc := "()V", sig := { parameters := [], returnType := none }, accessFlags := 1, code := none }
def k7c1 : Code := { maxStack := 5, maxLocals := 2, code := jdk_42_method_3_code, exceptionTable := #[], attributes := #[] }
def k7m1 : Method := { name := "<init>", desc := "([C)V", sig := { parameters := [(.array .char)], returnType := none }, accessFlags := 1, code := some k7c1 }
def k7c2 : Code := { maxStack := 4, maxLocals := 6, code := jdk_42_method_149_code, exceptionTable := #[], attributes := #[] }
def k7m2 : Method := { name := "<init>", desc := "([CIILjava/lang/Void;)V", sig := { parameters := [(.array .char), .int, .int, (.object "java/lang/Void")], returnType := none }, accessFlags := 2, code := some k7c2 }
/-- java/lang/String -/
def k7 : Class := { plain "java/lang/String" (some 0) with
  accessFlags := 49
  interfaces := #[2, 3, 4, 5, 6]
  cf := some (fileOf pool7 10 #[.nestMembers #[1103]] #[{ accessFlags := 1, nameIndex := 5, descriptorIndex := 6, attributes := #[] }, { accessFlags := 1, nameIndex := 5, descriptorIndex := 1010, attributes := #[] }, { accessFlags := 2, nameIndex := 5, descriptorIndex := 29, attributes := #[] }] 49 2 #[1106, 1108, 575, 1110, 1112] #[{ accessFlags := 18, nameIndex := 13, descriptorIndex := 14, attributes := #[] }, { accessFlags := 18, nameIndex := 17, descriptorIndex := 18, attributes := #[] }, { accessFlags := 2, nameIndex := 21, descriptorIndex := 22, attributes := #[] }, { accessFlags := 2, nameIndex := 25, descriptorIndex := 26, attributes := #[] }, { accessFlags := 26, nameIndex := 1116, descriptorIndex := 1117, attributes := #[] }, { accessFlags := 24, nameIndex := 40, descriptorIndex := 26, attributes := #[] }, { accessFlags := 26, nameIndex := 1101, descriptorIndex := 1102, attributes := #[] }, { accessFlags := 26, nameIndex := 1121, descriptorIndex := 1122, attributes := #[] }, { accessFlags := 25, nameIndex := 599, descriptorIndex := 600, attributes := #[] }, { accessFlags := 24, nameIndex := 1125, descriptorIndex := 18, attributes := #[] }, { accessFlags := 24, nameIndex := 1127, descriptorIndex := 18, attributes := #[] }])
  fields := #[{ name := "value", type := (.array .byte), accessFlags := 18, slot := 0, constantValue := 0 }, { name := "coder", type := .byte, accessFlags := 18, slot := 1, constantValue := 0 }, { name := "hash", type := .int, accessFlags := 2, slot := 2, constantValue := 0 }, { name := "hashIsZero", type := .boolean, accessFlags := 2, slot := 3, constantValue := 0 }, { name := "serialVersionUID", type := .long, accessFlags := 26, slot := 0, constantValue := 0 }, { name := "COMPACT_STRINGS", type := .boolean, accessFlags := 24, slot := 1, constantValue := 0 }, { name := "serialPersistentFields", type := (.array (.object "java/io/ObjectStreamField")), accessFlags := 26, slot := 2, constantValue := 0 }, { name := "REPL", type := .char, accessFlags := 26, slot := 3, constantValue := 0 }, { name := "CASE_INSENSITIVE_ORDER", type := (.object "java/util/Comparator"), accessFlags := 25, slot := 4, constantValue := 0 }, { name := "LATIN1", type := .byte, accessFlags := 24, slot := 5, constantValue := 0 }, { name := "UTF16", type := .byte, accessFlags := 24, slot := 6, constantValue := 0 }]
  methods := #[k7m0, k7m1, k7m2]
  instanceTypes := #[(.array .byte), .byte, .int, .boolean]
  staticTypes := #[.long, .boolean, (.array (.object "java/io/ObjectStreamField")), .char, (.object "java/util/Comparator"), .byte, .byte]
  resolved := Array.replicate 1451 none
  statics := some 0 }

def pool8 : Array CpInfo := pool [(6, .class_ 8), (1, u "java/lang/Object"), (0, u "<init>"), (0, u "()V"), (0, .methodref 12 13), (0, .class_ 14), (0, .nameAndType 15 16), (0, u "java/lang/StringUTF16"), (0, u "newBytesLength"), (0, u "(I)I"), (3, .integer 1073741823), (23, .fieldref 12 45), (0, .nameAndType 46 47), (0, u "$assertionsDisabled"), (0, u "Z"), (11, .fieldref 12 60), (0, .nameAndType 61 62), (0, u "HI_BYTE_SHIFT"), (0, u "I"), (0, .fieldref 12 64), (0, .nameAndType 65 62), (0, u "LO_BYTE_SHIFT"), (5, .methodref 12 72), (0, .nameAndType 73 74), (0, u "getChar"), (0, u "([BI)C"), (32, .methodref 12 108), (0, .nameAndType 109 110), (0, u "newBytesFor"), (0, u "(I)[B"), (0, .methodref 12 112), (0, .nameAndType 113 114), (0, u "putChar"), (0, u "([BII)V"), (0, .methodref 12 116), (0, .nameAndType 117 118), (0, u "compress"), (0, u "([CI[BII)I"), (0, .methodref 12 120), (0, .nameAndType 121 122), (0, u "toBytes"), (0, u "([CII)[B"), (138, u "coderFromArrayLen"), (0, u "([BI)B"), (106, .class_ 371), (1, u "java/lang/StringUTF16$LinesSpliterator"), (58, u "MAX_LENGTH"), (196, .class_ 628), (0, u "java/lang/StringUTF16$CodePointsSpliterator"), (0, .class_ 630), (0, u "java/lang/StringUTF16$CharsSpliterator")] 4

def k8m0 : Method := { name := "<init>", desc := "()V", sig := { parameters := [], returnType := none }, accessFlags := 0, code := none }
def k8c1 : Code := { maxStack := 1, maxLocals := 1, code := jdk_52_method_2_code, exceptionTable := #[], attributes := #[] }
def k8m1 : Method := { name := "newBytesFor", desc := "(I)[B", sig := { parameters := [.int], returnType := some (.array .byte) }, accessFlags := 9, code := some k8c1 }
def k8c2 : Code := { maxStack := 4, maxLocals := 1, code := jdk_52_method_3_code, exceptionTable := #[], attributes := #[] }
def k8m2 : Method := { name := "newBytesLength", desc := "(I)I", sig := { parameters := [.int], returnType := some .int }, accessFlags := 9, code := some k8c2 }
def k8c3 : Code := { maxStack := 4, maxLocals := 3, code := jdk_52_method_4_code, exceptionTable := #[], attributes := #[] }
def k8m3 : Method := { name := "putChar", desc := "([BII)V", sig := { parameters := [(.array .byte), .int, .int], returnType := none }, accessFlags := 8, code := some k8c3 }
def k8c4 : Code := { maxStack := 3, maxLocals := 2, code := jdk_52_method_5_code, exceptionTable := #[], attributes := #[] }
def k8m4 : Method := { name := "getChar", desc := "([BI)C", sig := { parameters := [(.array .byte), .int], returnType := some .char }, accessFlags := 8, code := some k8c4 }
def k8c5 : Code := { maxStack := 4, maxLocals := 5, code := jdk_52_method_14_code, exceptionTable := #[], attributes := #[] }
def k8m5 : Method := { name := "toBytes", desc := "([CII)[B", sig := { parameters := [(.array .char), .int, .int], returnType := some (.array .byte) }, accessFlags := 9, code := some k8c5 }
def k8c6 : Code := { maxStack := 2, maxLocals := 2, code := jdk_52_method_15_code, exceptionTable := #[], attributes := #[] }
def k8m6 : Method := { name := "coderFromArrayLen", desc := "([BI)B", sig := { parameters := [(.array .byte), .int], returnType := some .byte }, accessFlags := 8, code := some k8c6 }
def k8c7 : Code := { maxStack := 5, maxLocals := 6, code := jdk_52_method_16_code, exceptionTable := #[], attributes := #[] }
def k8m7 : Method := { name := "compress", desc := "([CII)[B", sig := { parameters := [(.array .char), .int, .int], returnType := some (.array .byte) }, accessFlags := 9, code := some k8c7 }
def k8c8 : Code := { maxStack := 3, maxLocals := 7, code := jdk_52_method_21_code, exceptionTable := #[], attributes := #[] }
def k8m8 : Method := { name := "compress", desc := "([CI[BII)I", sig := { parameters := [(.array .char), .int, (.array .byte), .int, .int], returnType := some .int }, accessFlags := 9, code := some k8c8 }
/-- java/lang/StringUTF16 -/
def k8 : Class := { plain "java/lang/StringUTF16" (some 0) with
  accessFlags := 48
  interfaces := #[]
  cf := some (fileOf pool8 12 #[.nestMembers #[627, 629, 369]] #[{ accessFlags := 0, nameIndex := 9, descriptorIndex := 10, attributes := #[] }, { accessFlags := 9, nameIndex := 109, descriptorIndex := 110, attributes := #[] }, { accessFlags := 9, nameIndex := 15, descriptorIndex := 16, attributes := #[] }, { accessFlags := 8, nameIndex := 113, descriptorIndex := 114, attributes := #[] }, { accessFlags := 8, nameIndex := 73, descriptorIndex := 74, attributes := #[] }, { accessFlags := 9, nameIndex := 121, descriptorIndex := 122, attributes := #[] }, { accessFlags := 8, nameIndex := 261, descriptorIndex := 262, attributes := #[] }, { accessFlags := 9, nameIndex := 117, descriptorIndex := 122, attributes := #[] }, { accessFlags := 9, nameIndex := 117, descriptorIndex := 118, attributes := #[] }] 48 6 #[] #[{ accessFlags := 26, nameIndex := 61, descriptorIndex := 62, attributes := #[] }, { accessFlags := 26, nameIndex := 65, descriptorIndex := 62, attributes := #[] }, { accessFlags := 24, nameIndex := 430, descriptorIndex := 62, attributes := #[] }, { accessFlags := 4120, nameIndex := 46, descriptorIndex := 47, attributes := #[] }])
  fields := #[{ name := "HI_BYTE_SHIFT", type := .int, accessFlags := 26, slot := 0, constantValue := 0 }, { name := "LO_BYTE_SHIFT", type := .int, accessFlags := 26, slot := 1, constantValue := 0 }, { name := "MAX_LENGTH", type := .int, accessFlags := 24, slot := 2, constantValue := 0 }, { name := "$assertionsDisabled", type := .boolean, accessFlags := 4120, slot := 3, constantValue := 0 }]
  methods := #[k8m0, k8m1, k8m2, k8m3, k8m4, k8m5, k8m6, k8m7, k8m8]
  instanceTypes := #[]
  staticTypes := #[.int, .int, .int, .boolean]
  resolved := Array.replicate 635 none
  statics := some 1 }

def pool9 : Array CpInfo := pool [(1, .methodref 2 3), (0, .class_ 4), (0, .nameAndType 5 6), (0, u "java/lang/Object"), (0, u "<init>"), (0, u "()V"), (0, .class_ 8), (0, u "java/lang/Record")] 13

def k9c0 : Code := { maxStack := 1, maxLocals := 1, code := jdk_30_method_1_code, exceptionTable := #[], attributes := #[] }
def k9m0 : Method := { name := "<init>", desc := "()V", sig := { parameters := [], returnType := none }, accessFlags := 4, code := some k9c0 }
/-- java/lang/Record -/
def k9 : Class := { plain "java/lang/Record" (some 0) with
  accessFlags := 1057
  interfaces := #[]
  cf := some (fileOf pool9 7 #[] #[{ accessFlags := 4, nameIndex := 5, descriptorIndex := 6, attributes := #[] }] 1057 2 #[] #[])
  fields := #[]
  methods := #[k9m0]
  instanceTypes := #[]
  staticTypes := #[]
  resolved := Array.replicate 22 none
  statics := none }

def pool10 : Array CpInfo := pool [(1, .methodref 2 3), (0, .class_ 4), (0, .nameAndType 5 6), (0, u "java/lang/Record"), (0, u "<init>"), (0, u "()V"), (0, .fieldref 8 9), (0, .class_ 10), (0, .nameAndType 11 12), (0, u "com/example/spulenwerk/spulenwerk/jsonlines/LineReader$Line"), (0, u "number"), (0, u "I"), (0, .fieldref 8 14), (0, .nameAndType 15 16), (0, u "text"), (0, u "Ljava/lang/String;"), (0, .fieldref 8 18), (0, .nameAndType 19 20), (0, u "terminated"), (0, u "Z"), (12, u "(ILjava/lang/String;Z)V"), (3, u "isText"), (0, u "()Z"), (1, u "()Ljava/lang/String;"), (5, .class_ 47), (0, u "com/example/spulenwerk/spulenwerk/jsonlines/LineReader")] 21

def k10c0 : Code := { maxStack := 2, maxLocals := 4, code := prog_7_method_1_code, exceptionTable := #[], attributes := #[] }
def k10m0 : Method := { name := "<init>", desc := "(ILjava/lang/String;Z)V", sig := { parameters := [.int, (.object "java/lang/String"), .boolean], returnType := none }, accessFlags := 1, code := some k10c0 }
def k10c1 : Code := { maxStack := 1, maxLocals := 1, code := prog_7_method_2_code, exceptionTable := #[], attributes := #[] }
def k10m1 : Method := { name := "isText", desc := "()Z", sig := { parameters := [], returnType := some .boolean }, accessFlags := 1, code := some k10c1 }
def k10c2 : Code := { maxStack := 1, maxLocals := 1, code := prog_7_method_7_code, exceptionTable := #[], attributes := #[] }
def k10m2 : Method := { name := "text", desc := "()Ljava/lang/String;", sig := { parameters := [], returnType := some (.object "java/lang/String") }, accessFlags := 1, code := some k10c2 }
/-- com/example/spulenwerk/spulenwerk/jsonlines/LineReader$Line -/
def k10 : Class := { plain "com/example/spulenwerk/spulenwerk/jsonlines/LineReader$Line" (some 9) with
  accessFlags := 49
  interfaces := #[]
  cf := some (fileOf pool10 8 #[.nestHost 46] #[{ accessFlags := 1, nameIndex := 5, descriptorIndex := 33, attributes := #[] }, { accessFlags := 1, nameIndex := 37, descriptorIndex := 38, attributes := #[] }, { accessFlags := 1, nameIndex := 15, descriptorIndex := 40, attributes := #[] }] 49 2 #[] #[{ accessFlags := 18, nameIndex := 11, descriptorIndex := 12, attributes := #[] }, { accessFlags := 18, nameIndex := 15, descriptorIndex := 16, attributes := #[] }, { accessFlags := 18, nameIndex := 19, descriptorIndex := 20, attributes := #[] }])
  fields := #[{ name := "number", type := .int, accessFlags := 18, slot := 0, constantValue := 0 }, { name := "text", type := (.object "java/lang/String"), accessFlags := 18, slot := 1, constantValue := 0 }, { name := "terminated", type := .boolean, accessFlags := 18, slot := 2, constantValue := 0 }]
  methods := #[k10m0, k10m1, k10m2]
  instanceTypes := #[.int, (.object "java/lang/String"), .boolean]
  staticTypes := #[]
  resolved := Array.replicate 69 none
  statics := none }

def pool11 : Array CpInfo := pool [(4, .class_ 6), (1, u "java/lang/Object"), (0, u "<init>"), (0, u "()V"), (5, .class_ 16), (1, u "java/lang/StringLatin1"), (104, u "$assertionsDisabled"), (0, u "Z"), (98, .class_ 223), (1, u "java/lang/StringLatin1$LinesSpliterator"), (166, .class_ 391), (0, u "java/lang/StringLatin1$CharsSpliterator")] 3

def k11m0 : Method := { name := "<init>", desc := "()V", sig := { parameters := [], returnType := none }, accessFlags := 0, code := none }
/-- java/lang/StringLatin1 -/
def k11 : Class := { plain "java/lang/StringLatin1" (some 0) with
  accessFlags := 48
  interfaces := #[]
  cf := some (fileOf pool11 14 #[.nestMembers #[390, 221]] #[{ accessFlags := 0, nameIndex := 7, descriptorIndex := 8, attributes := #[] }] 48 4 #[] #[{ accessFlags := 4120, nameIndex := 121, descriptorIndex := 122, attributes := #[] }])
  fields := #[{ name := "$assertionsDisabled", type := .boolean, accessFlags := 4120, slot := 0, constantValue := 0 }]
  methods := #[k11m0]
  instanceTypes := #[]
  staticTypes := #[.boolean]
  resolved := Array.replicate 395 none
  statics := none }

def pool12 : Array CpInfo := pool [(2, .class_ 4), (1, u "java/lang/Object"), (0, u "<init>"), (0, u "()V"), (17, .class_ 26), (1, u "jdk/internal/util/Preconditions"), (28, .class_ 56), (0, u "jdk/internal/util/Preconditions$4"), (57, .class_ 115), (0, u "jdk/internal/util/Preconditions$1"), (7, u "SIOOBE_FORMATTER"), (0, u "Ljava/util/function/BiFunction;"), (0, .class_ 126), (0, u "jdk/internal/util/Preconditions$2"), (3, u "AIOOBE_FORMATTER"), (0, .class_ 132), (0, u "jdk/internal/util/Preconditions$3"), (3, u "IOOBE_FORMATTER")] 57

def k12m0 : Method := { name := "<init>", desc := "()V", sig := { parameters := [], returnType := none }, accessFlags := 1, code := none }
/-- jdk/internal/util/Preconditions -/
def k12 : Class := { plain "jdk/internal/util/Preconditions" (some 0) with
  accessFlags := 33
  interfaces := #[]
  cf := some (fileOf pool12 24 #[.nestMembers #[55, 131, 125, 114]] #[{ accessFlags := 1, nameIndex := 5, descriptorIndex := 6, attributes := #[] }] 33 2 #[] #[{ accessFlags := 25, nameIndex := 123, descriptorIndex := 124, attributes := #[] }, { accessFlags := 25, nameIndex := 130, descriptorIndex := 124, attributes := #[] }, { accessFlags := 25, nameIndex := 136, descriptorIndex := 124, attributes := #[] }])
  fields := #[{ name := "SIOOBE_FORMATTER", type := (.object "java/util/function/BiFunction"), accessFlags := 25, slot := 0, constantValue := 0 }, { name := "AIOOBE_FORMATTER", type := (.object "java/util/function/BiFunction"), accessFlags := 25, slot := 1, constantValue := 0 }, { name := "IOOBE_FORMATTER", type := (.object "java/util/function/BiFunction"), accessFlags := 25, slot := 2, constantValue := 0 }]
  methods := #[k12m0]
  instanceTypes := #[]
  staticTypes := #[(.object "java/util/function/BiFunction"), (.object "java/util/function/BiFunction"), (.object "java/util/function/BiFunction")]
  resolved := Array.replicate 194 none
  statics := some 2 }

def pool13 : Array CpInfo := pool [(9, u "<init>"), (6, .class_ 18), (1, u "java/lang/Object"), (0, u "()V"), (1, .class_ 23), (1, u "jdk/internal/util/ArraysSupport"), (0, u "LOG2_ARRAY_LONG_INDEX_SCALE"), (0, u "I"), (2, u "U"), (0, u "Ljdk/internal/misc/Unsafe;"), (8, u "BIG_ENDIAN"), (0, u "Z"), (8, u "LOG2_BYTE_BIT_SIZE"), (4, u "LOG2_ARRAY_INT_INDEX_SCALE"), (54, u "JLA"), (0, u "Ljdk/internal/access/JavaLangAccess;"), (11, u "LOG2_ARRAY_BOOLEAN_INDEX_SCALE"), (9, u "LOG2_ARRAY_BYTE_INDEX_SCALE"), (5, u "LOG2_ARRAY_CHAR_INDEX_SCALE"), (5, u "LOG2_ARRAY_SHORT_INDEX_SCALE"), (18, u "LOG2_ARRAY_FLOAT_INDEX_SCALE"), (24, u "LOG2_ARRAY_DOUBLE_INDEX_SCALE"), (89, u "T_BOOLEAN"), (2, u "T_CHAR"), (1, u "T_FLOAT"), (1, u "T_DOUBLE"), (1, u "T_BYTE"), (1, u "T_SHORT"), (1, u "T_INT"), (1, u "T_LONG"), (1, u "SOFT_MAX_ARRAY_LENGTH")] 83

def k13m0 : Method := { name := "<init>", desc := "()V", sig := { parameters := [], returnType := none }, accessFlags := 2, code := none }
/-- jdk/internal/util/ArraysSupport -/
def k13 : Class := { plain "jdk/internal/util/ArraysSupport" (some 0) with
  accessFlags := 33
  interfaces := #[]
  cf := some (fileOf pool13 21 #[] #[{ accessFlags := 2, nameIndex := 9, descriptorIndex := 19, attributes := #[] }] 33 16 #[] #[{ accessFlags := 24, nameIndex := 28, descriptorIndex := 29, attributes := #[] }, { accessFlags := 26, nameIndex := 38, descriptorIndex := 39, attributes := #[] }, { accessFlags := 25, nameIndex := 121, descriptorIndex := 25, attributes := #[] }, { accessFlags := 25, nameIndex := 131, descriptorIndex := 25, attributes := #[] }, { accessFlags := 25, nameIndex := 137, descriptorIndex := 25, attributes := #[] }, { accessFlags := 25, nameIndex := 143, descriptorIndex := 25, attributes := #[] }, { accessFlags := 25, nameIndex := 53, descriptorIndex := 25, attributes := #[] }, { accessFlags := 25, nameIndex := 24, descriptorIndex := 25, attributes := #[] }, { accessFlags := 25, nameIndex := 162, descriptorIndex := 25, attributes := #[] }, { accessFlags := 25, nameIndex := 187, descriptorIndex := 25, attributes := #[] }, { accessFlags := 26, nameIndex := 48, descriptorIndex := 25, attributes := #[] }, { accessFlags := 25, nameIndex := 277, descriptorIndex := 25, attributes := #[] }, { accessFlags := 25, nameIndex := 280, descriptorIndex := 25, attributes := #[] }, { accessFlags := 25, nameIndex := 282, descriptorIndex := 25, attributes := #[] }, { accessFlags := 25, nameIndex := 284, descriptorIndex := 25, attributes := #[] }, { accessFlags := 25, nameIndex := 286, descriptorIndex := 25, attributes := #[] }, { accessFlags := 25, nameIndex := 288, descriptorIndex := 25, attributes := #[] }, { accessFlags := 25, nameIndex := 290, descriptorIndex := 25, attributes := #[] }, { accessFlags := 25, nameIndex := 292, descriptorIndex := 25, attributes := #[] }, { accessFlags := 26, nameIndex := 108, descriptorIndex := 109, attributes := #[] }, { accessFlags := 25, nameIndex := 294, descriptorIndex := 25, attributes := #[] }])
  fields := #[{ name := "U", type := (.object "jdk/internal/misc/Unsafe"), accessFlags := 24, slot := 0, constantValue := 0 }, { name := "BIG_ENDIAN", type := .boolean, accessFlags := 26, slot := 1, constantValue := 0 }, { name := "LOG2_ARRAY_BOOLEAN_INDEX_SCALE", type := .int, accessFlags := 25, slot := 2, constantValue := 0 }, { name := "LOG2_ARRAY_BYTE_INDEX_SCALE", type := .int, accessFlags := 25, slot := 3, constantValue := 0 }, { name := "LOG2_ARRAY_CHAR_INDEX_SCALE", type := .int, accessFlags := 25, slot := 4, constantValue := 0 }, { name := "LOG2_ARRAY_SHORT_INDEX_SCALE", type := .int, accessFlags := 25, slot := 5, constantValue := 0 }, { name := "LOG2_ARRAY_INT_INDEX_SCALE", type := .int, accessFlags := 25, slot := 6, constantValue := 0 }, { name := "LOG2_ARRAY_LONG_INDEX_SCALE", type := .int, accessFlags := 25, slot := 7, constantValue := 0 }, { name := "LOG2_ARRAY_FLOAT_INDEX_SCALE", type := .int, accessFlags := 25, slot := 8, constantValue := 0 }, { name := "LOG2_ARRAY_DOUBLE_INDEX_SCALE", type := .int, accessFlags := 25, slot := 9, constantValue := 0 }, { name := "LOG2_BYTE_BIT_SIZE", type := .int, accessFlags := 26, slot := 10, constantValue := 0 }, { name := "T_BOOLEAN", type := .int, accessFlags := 25, slot := 11, constantValue := 0 }, { name := "T_CHAR", type := .int, accessFlags := 25, slot := 12, constantValue := 0 }, { name := "T_FLOAT", type := .int, accessFlags := 25, slot := 13, constantValue := 0 }, { name := "T_DOUBLE", type := .int, accessFlags := 25, slot := 14, constantValue := 0 }, { name := "T_BYTE", type := .int, accessFlags := 25, slot := 15, constantValue := 0 }, { name := "T_SHORT", type := .int, accessFlags := 25, slot := 16, constantValue := 0 }, { name := "T_INT", type := .int, accessFlags := 25, slot := 17, constantValue := 0 }, { name := "T_LONG", type := .int, accessFlags := 25, slot := 18, constantValue := 0 }, { name := "JLA", type := (.object "jdk/internal/access/JavaLangAccess"), accessFlags := 26, slot := 19, constantValue := 0 }, { name := "SOFT_MAX_ARRAY_LENGTH", type := .int, accessFlags := 25, slot := 20, constantValue := 0 }]
  methods := #[k13m0]
  instanceTypes := #[]
  staticTypes := #[(.object "jdk/internal/misc/Unsafe"), .boolean, .int, .int, .int, .int, .int, .int, .int, .int, .int, .int, .int, .int, .int, .int, .int, .int, .int, (.object "jdk/internal/access/JavaLangAccess"), .int]
  resolved := Array.replicate 378 none
  statics := none }

def pool14 : Array CpInfo := pool [(1, u "java/lang/Cloneable"), (0, .class_ 1), (0, u "java/lang/Object"), (0, .class_ 3)] 3

/-- java/lang/Cloneable -/
def k14 : Class := { plain "java/lang/Cloneable" (some 0) with
  accessFlags := 1537
  interfaces := #[]
  cf := some (fileOf pool14 2 #[] #[] 1537 4 #[] #[])
  fields := #[]
  methods := #[]
  instanceTypes := #[]
  staticTypes := #[]
  resolved := Array.replicate 8 none
  statics := none }

/-- the primitive byte -/
def k15 : Class := { plain "byte" none with kind := .primitive 'B', accessFlags := 0x411 }
/-- [B -/
def k16 : Class := { plain "[B" (some 0) with kind := .array 15 .byte, interfaces := #[14, 2], accessFlags := 1041 }

/-- the primitive char -/
def k17 : Class := { plain "char" none with kind := .primitive 'C', accessFlags := 0x411 }
/-- [C -/
def k18 : Class := { plain "[C" (some 0) with kind := .array 17 .char, interfaces := #[14, 2], accessFlags := 1041 }

/-- the primitive int -/
def k19 : Class := { plain "int" none with kind := .primitive 'I', accessFlags := 0x411 }
/-- [I -/
def k20 : Class := { plain "[I" (some 0) with kind := .array 19 .int, interfaces := #[14, 2], accessFlags := 1041 }

def heap : Heap := #[{ cls := 7, slots := #[.long 0, .int 1, .null, .int 0, .null, .int 0, .int 0], vm := .statics 7 },
  { cls := 8, slots := #[.int 0, .int 8, .int 0, .int 1], vm := .statics 8 },
  { cls := 12, slots := #[.null, .null, .null], vm := .statics 12 }]
def classes : Array Class := #[k0, k1, k2, k3, k4, k5, k6, k7, k8, k9, k10, k11, k12, k13, k14, k15, k16, k17, k18, k19, k20]
def interned : List (Array UInt16 × Addr) := []
def slotsUsed : Nat := 14
def theMethod : MethodId := ⟨1, 1⟩
def args0 : Array Value := #[.int 1, .int 2, .int 300, .int 4]
def aboutOver (below : List Frame) : State where
  vm := { classes := classes, interned := interned.toArray }
  heap := heap
  slotsUsed := slotsUsed
  threads := #[{ frames := .invoking theMethod args0 :: below }]
def below0 : List Frame := [.native { method := ⟨0, 0⟩, args := #[] }]
def about1 : State := aboutOver below0
def p0 : Program := .bare "" "" ""
def e0 : Env := launch0.env 0 0 0
theorem w_frames : about1.frames = Frame.invoking theMethod args0 :: below0 := rfl
set_option maxRecDepth 65536 in
theorem w_args : argsFit about1.vm theMethod args0 = true := by decide +kernel
set_option maxRecDepth 65536 in
theorem w_heap : heapFits about1 = true := by decide +kernel
set_option maxRecDepth 65536 in
theorem w_runnable : about1.curStatus? = some .runnable := by decide +kernel
set_option maxRecDepth 65536 in
theorem w_alone : about1.alone = true := by decide +kernel
set_option maxRecDepth 65536 in
theorem w_named : about1.methodNamed? x = some theMethod := by decide +kernel
set_option maxRecDepth 65536 in
theorem w_hears : about1.hears theMethod below0 = true := by decide +kernel
set_option maxRecDepth 65536 in
theorem w_ripe : about1.ripe theMethod args0 below0 = true := by decide +kernel
theorem w_running : about1.status = .running := rfl
set_option maxRecDepth 65536 in
theorem w_room : about1.hasRoom e0.platform room_1 = true :=
  launch0.hasRoom_least _ room_1 (by decide +kernel) (by decide +kernel) (by decide +kernel) (by decide +kernel) (by decide +kernel) (by decide +kernel)
theorem allAtoms_all (ts : List Jvm.Cond) (a : Array Jvm.Value) (st : Jvm.State) : (allAtoms ts).before a st = ts.all (fun c => c.before a st) := by
  induction ts with
  | nil => rfl
  | cons c t ih =>
    show (Jvm.Cond.and c (allAtoms t)).before a st = _
    rw [Jvm.Cond.before_and, ih, List.all_cons]
def words1 : List Jvm.Cond := Jvm.Cond.code x code maxLocals ret :: tables_1
/-- a 'code' word, met by the world's own term for the bytes: nothing is compared byte by byte -/
theorem code_word {y : MethodName} {bytes : ByteArray} {mx : Nat} {rt : Option FieldType} {a : Array Value} {s : State} {m : MethodId} {meth : Method} {c : Code} (h1 : s.methodNamed? y = some m) (h2 : s.vm.method? m = some meth) (h3 : meth.code = some c) (h4 : c.code = bytes)
    (h5 : (c.maxLocals == mx && c.exceptionTable.isEmpty && decide (c.maxStack ≤ mostOperands) && decide (meth.sig.returnType = rt) && !meth.locks && decide (parseMethodDescriptor y.desc = some meth.sig)) = true) : (Jvm.Cond.code y bytes mx rt).before a s = true := by
  simp only [Bool.and_eq_true, beq_iff_eq, Bool.not_eq_true', decide_eq_true_eq] at h5
  obtain ⟨⟨⟨⟨⟨g1, g2⟩, g3⟩, g4⟩, g5⟩, g6⟩ := h5
  simp [Cond.before, Cond.holds, Cond.value, h1, h2, h3, h4, g1, g2, g3, g4, g5, g6]
def isCode : Jvm.Cond → Bool
  | .code _ _ _ _ => true
  | _ => false
theorem all_split {L : List Jvm.Cond} {P : Jvm.Cond → Bool} (h1 : L.all (fun c => isCode c || P c) = true) (h2 : ∀ c ∈ L.filter isCode, P c = true) : L.all P = true := by
  refine List.all_eq_true.mpr fun c hc => ?_
  have h := List.all_eq_true.mp h1 c hc
  rcases Bool.eq_false_or_eq_true (isCode c) with hi | hi
  · exact h2 c (List.mem_filter.mpr ⟨hc, hi⟩)
  · simpa [hi] using h
set_option maxRecDepth 65536 in
theorem w_c0 : (Jvm.Cond.code x code maxLocals ret).before args0 about1 = true := code_word (m := ⟨1, 1⟩) (meth := k1m1) (c := k1c1) (by decide +kernel) rfl rfl rfl (by decide +kernel)
set_option maxRecDepth 65536 in
theorem w_c1 : (Jvm.Cond.code ({ cls := "java/lang/String", name := "<init>", desc := "([C)V" } : Jvm.MethodName) jdk_42_method_3_code (2 : Nat) (Option.none : Option Jvm.ClassFile.FieldType)).before args0 about1 = true := code_word (m := ⟨7, 1⟩) (meth := k7m1) (c := k7c1) (by decide +kernel) rfl rfl rfl (by decide +kernel)
set_option maxRecDepth 65536 in
theorem w_c2 : (Jvm.Cond.code ({ cls := "java/lang/String", name := "<init>", desc := "([CIILjava/lang/Void;)V" } : Jvm.MethodName) jdk_42_method_149_code (6 : Nat) (Option.none : Option Jvm.ClassFile.FieldType)).before args0 about1 = true := code_word (m := ⟨7, 2⟩) (meth := k7m2) (c := k7c2) (by decide +kernel) rfl rfl rfl (by decide +kernel)
set_option maxRecDepth 65536 in
theorem w_c3 : (Jvm.Cond.code ({ cls := "java/lang/Object", name := "<init>", desc := "()V" } : Jvm.MethodName) object_method_1_code (1 : Nat) (Option.none : Option Jvm.ClassFile.FieldType)).before args0 about1 = true := code_word (m := ⟨0, 0⟩) (meth := k0m0) (c := k0c0) (by decide +kernel) rfl rfl rfl (by decide +kernel)
set_option maxRecDepth 65536 in
theorem w_c4 : (Jvm.Cond.code ({ cls := "java/lang/StringUTF16", name := "compress", desc := "([CII)[B" } : Jvm.MethodName) jdk_52_method_16_code (6 : Nat) (Option.some (Jvm.ClassFile.FieldType.array Jvm.ClassFile.FieldType.byte))).before args0 about1 = true := code_word (m := ⟨8, 7⟩) (meth := k8m7) (c := k8c7) (by decide +kernel) rfl rfl rfl (by decide +kernel)
set_option maxRecDepth 65536 in
theorem w_c5 : (Jvm.Cond.code ({ cls := "java/lang/StringUTF16", name := "compress", desc := "([CI[BII)I" } : Jvm.MethodName) jdk_52_method_21_code (7 : Nat) (Option.some Jvm.ClassFile.FieldType.int)).before args0 about1 = true := code_word (m := ⟨8, 8⟩) (meth := k8m8) (c := k8c8) (by decide +kernel) rfl rfl rfl (by decide +kernel)
set_option maxRecDepth 65536 in
theorem w_c6 : (Jvm.Cond.code ({ cls := "java/lang/StringUTF16", name := "coderFromArrayLen", desc := "([BI)B" } : Jvm.MethodName) jdk_52_method_15_code (2 : Nat) (Option.some Jvm.ClassFile.FieldType.byte)).before args0 about1 = true := code_word (m := ⟨8, 6⟩) (meth := k8m6) (c := k8c6) (by decide +kernel) rfl rfl rfl (by decide +kernel)
set_option maxRecDepth 65536 in
theorem w_c7 : (Jvm.Cond.code ({ cls := "com/example/spulenwerk/spulenwerk/jsonlines/LineReader$Line", name := "<init>", desc := "(ILjava/lang/String;Z)V" } : Jvm.MethodName) prog_7_method_1_code (4 : Nat) (Option.none : Option Jvm.ClassFile.FieldType)).before args0 about1 = true := code_word (m := ⟨10, 0⟩) (meth := k10m0) (c := k10c0) (by decide +kernel) rfl rfl rfl (by decide +kernel)
set_option maxRecDepth 65536 in
theorem w_c8 : (Jvm.Cond.code ({ cls := "java/lang/Record", name := "<init>", desc := "()V" } : Jvm.MethodName) jdk_30_method_1_code (1 : Nat) (Option.none : Option Jvm.ClassFile.FieldType)).before args0 about1 = true := code_word (m := ⟨9, 0⟩) (meth := k9m0) (c := k9c0) (by decide +kernel) rfl rfl rfl (by decide +kernel)
set_option maxRecDepth 65536 in
theorem w_c9 : (Jvm.Cond.code ({ cls := "com/example/spulenwerk/spulenwerk/jsonlines/LineReader$Line", name := "isText", desc := "()Z" } : Jvm.MethodName) prog_7_method_2_code (1 : Nat) (Option.some Jvm.ClassFile.FieldType.boolean)).before args0 about1 = true := code_word (m := ⟨10, 1⟩) (meth := k10m1) (c := k10c1) (by decide +kernel) rfl rfl rfl (by decide +kernel)
set_option maxRecDepth 65536 in
theorem w_c10 : (Jvm.Cond.code ({ cls := "com/example/spulenwerk/spulenwerk/jsonlines/LineReader$Line", name := "text", desc := "()Ljava/lang/String;" } : Jvm.MethodName) prog_7_method_7_code (1 : Nat) (Option.some (Jvm.ClassFile.FieldType.object "java/lang/String"))).before args0 about1 = true := code_word (m := ⟨10, 2⟩) (meth := k10m2) (c := k10c2) (by decide +kernel) rfl rfl rfl (by decide +kernel)
set_option maxRecDepth 65536 in
theorem w_c11 : (Jvm.Cond.code ({ cls := "java/lang/StringUTF16", name := "toBytes", desc := "([CII)[B" } : Jvm.MethodName) jdk_52_method_14_code (5 : Nat) (Option.some (Jvm.ClassFile.FieldType.array Jvm.ClassFile.FieldType.byte))).before args0 about1 = true := code_word (m := ⟨8, 5⟩) (meth := k8m5) (c := k8c5) (by decide +kernel) rfl rfl rfl (by decide +kernel)
set_option maxRecDepth 65536 in
theorem w_c12 : (Jvm.Cond.code ({ cls := "java/lang/StringUTF16", name := "newBytesFor", desc := "(I)[B" } : Jvm.MethodName) jdk_52_method_2_code (1 : Nat) (Option.some (Jvm.ClassFile.FieldType.array Jvm.ClassFile.FieldType.byte))).before args0 about1 = true := code_word (m := ⟨8, 1⟩) (meth := k8m1) (c := k8c1) (by decide +kernel) rfl rfl rfl (by decide +kernel)
set_option maxRecDepth 65536 in
theorem w_c13 : (Jvm.Cond.code ({ cls := "java/lang/StringUTF16", name := "newBytesLength", desc := "(I)I" } : Jvm.MethodName) jdk_52_method_3_code (1 : Nat) (Option.some Jvm.ClassFile.FieldType.int)).before args0 about1 = true := code_word (m := ⟨8, 2⟩) (meth := k8m2) (c := k8c2) (by decide +kernel) rfl rfl rfl (by decide +kernel)
set_option maxRecDepth 65536 in
theorem w_c14 : (Jvm.Cond.code ({ cls := "java/lang/StringUTF16", name := "putChar", desc := "([BII)V" } : Jvm.MethodName) jdk_52_method_4_code (3 : Nat) (Option.none : Option Jvm.ClassFile.FieldType)).before args0 about1 = true := code_word (m := ⟨8, 3⟩) (meth := k8m3) (c := k8c3) (by decide +kernel) rfl rfl rfl (by decide +kernel)
set_option maxRecDepth 65536 in
theorem w_c15 : (Jvm.Cond.code ({ cls := "java/lang/StringUTF16", name := "getChar", desc := "([BI)C" } : Jvm.MethodName) jdk_52_method_5_code (2 : Nat) (Option.some Jvm.ClassFile.FieldType.char)).before args0 about1 = true := code_word (m := ⟨8, 4⟩) (meth := k8m4) (c := k8c4) (by decide +kernel) rfl rfl rfl (by decide +kernel)
def codes1 : List Jvm.Cond := [Jvm.Cond.code x code maxLocals ret, Jvm.Cond.code ({ cls := "java/lang/String", name := "<init>", desc := "([C)V" } : Jvm.MethodName) jdk_42_method_3_code (2 : Nat) (Option.none : Option Jvm.ClassFile.FieldType), Jvm.Cond.code ({ cls := "java/lang/String", name := "<init>", desc := "([CIILjava/lang/Void;)V" } : Jvm.MethodName) jdk_42_method_149_code (6 : Nat) (Option.none : Option Jvm.ClassFile.FieldType), Jvm.Cond.code ({ cls := "java/lang/Object", name := "<init>", desc := "()V" } : Jvm.MethodName) object_method_1_code (1 : Nat) (Option.none : Option Jvm.ClassFile.FieldType), Jvm.Cond.code ({ cls := "java/lang/StringUTF16", name := "compress", desc := "([CII)[B" } : Jvm.MethodName) jdk_52_method_16_code (6 : Nat) (Option.some (Jvm.ClassFile.FieldType.array Jvm.ClassFile.FieldType.byte)), Jvm.Cond.code ({ cls := "java/lang/StringUTF16", name := "compress", desc := "([CI[BII)I" } : Jvm.MethodName) jdk_52_method_21_code (7 : Nat) (Option.some Jvm.ClassFile.FieldType.int), Jvm.Cond.code ({ cls := "java/lang/StringUTF16", name := "coderFromArrayLen", desc := "([BI)B" } : Jvm.MethodName) jdk_52_method_15_code (2 : Nat) (Option.some Jvm.ClassFile.FieldType.byte), Jvm.Cond.code ({ cls := "com/example/spulenwerk/spulenwerk/jsonlines/LineReader$Line", name := "<init>", desc := "(ILjava/lang/String;Z)V" } : Jvm.MethodName) prog_7_method_1_code (4 : Nat) (Option.none : Option Jvm.ClassFile.FieldType), Jvm.Cond.code ({ cls := "java/lang/Record", name := "<init>", desc := "()V" } : Jvm.MethodName) jdk_30_method_1_code (1 : Nat) (Option.none : Option Jvm.ClassFile.FieldType), Jvm.Cond.code ({ cls := "com/example/spulenwerk/spulenwerk/jsonlines/LineReader$Line", name := "isText", desc := "()Z" } : Jvm.MethodName) prog_7_method_2_code (1 : Nat) (Option.some Jvm.ClassFile.FieldType.boolean), Jvm.Cond.code ({ cls := "com/example/spulenwerk/spulenwerk/jsonlines/LineReader$Line", name := "text", desc := "()Ljava/lang/String;" } : Jvm.MethodName) prog_7_method_7_code (1 : Nat) (Option.some (Jvm.ClassFile.FieldType.object "java/lang/String")), Jvm.Cond.code ({ cls := "java/lang/StringUTF16", name := "toBytes", desc := "([CII)[B" } : Jvm.MethodName) jdk_52_method_14_code (5 : Nat) (Option.some (Jvm.ClassFile.FieldType.array Jvm.ClassFile.FieldType.byte)), Jvm.Cond.code ({ cls := "java/lang/StringUTF16", name := "newBytesFor", desc := "(I)[B" } : Jvm.MethodName) jdk_52_method_2_code (1 : Nat) (Option.some (Jvm.ClassFile.FieldType.array Jvm.ClassFile.FieldType.byte)), Jvm.Cond.code ({ cls := "java/lang/StringUTF16", name := "newBytesLength", desc := "(I)I" } : Jvm.MethodName) jdk_52_method_3_code (1 : Nat) (Option.some Jvm.ClassFile.FieldType.int), Jvm.Cond.code ({ cls := "java/lang/StringUTF16", name := "putChar", desc := "([BII)V" } : Jvm.MethodName) jdk_52_method_4_code (3 : Nat) (Option.none : Option Jvm.ClassFile.FieldType), Jvm.Cond.code ({ cls := "java/lang/StringUTF16", name := "getChar", desc := "([BI)C" } : Jvm.MethodName) jdk_52_method_5_code (2 : Nat) (Option.some Jvm.ClassFile.FieldType.char)]
set_option maxRecDepth 65536 in
theorem codes_eq : words1.filter isCode = codes1 := rfl
theorem w_codes : ∀ c ∈ words1.filter isCode, c.before args0 about1 = true := by
  rw [codes_eq]
  intro c hc
  simp only [codes1, List.mem_cons, List.not_mem_nil, or_false] at hc
  rcases hc with rfl | rfl | rfl | rfl | rfl | rfl | rfl | rfl | rfl | rfl | rfl | rfl | rfl | rfl | rfl | rfl
  · exact w_c0
  · exact w_c1
  · exact w_c2
  · exact w_c3
  · exact w_c4
  · exact w_c5
  · exact w_c6
  · exact w_c7
  · exact w_c8
  · exact w_c9
  · exact w_c10
  · exact w_c11
  · exact w_c12
  · exact w_c13
  · exact w_c14
  · exact w_c15
set_option maxRecDepth 65536 in
theorem w_t1 : (words1.take 24).all (fun c => isCode c || c.before args0 about1) = true := by decide +kernel
set_option maxRecDepth 65536 in
theorem w_t2 : ((words1.drop 24).take 24).all (fun c => isCode c || c.before args0 about1) = true := by decide +kernel
set_option maxRecDepth 65536 in
theorem w_t3 : (((words1.drop 24).drop 24).take 24).all (fun c => isCode c || c.before args0 about1) = true := by decide +kernel
set_option maxRecDepth 65536 in
theorem w_t4 : (((words1.drop 24).drop 24).drop 24).all (fun c => isCode c || c.before args0 about1) = true := by decide +kernel
theorem w_tables : (allAtoms (Jvm.Cond.code x code maxLocals ret :: tables_1)).before args0 about1 = true := by
  rw [allAtoms_all]
  show words1.all (fun c => c.before args0 about1) = true
  refine all_split ?_ w_codes
  rw [← List.take_append_drop 24 words1, List.all_append, w_t1, ← List.take_append_drop 24 (words1.drop 24), List.all_append, w_t2, ← List.take_append_drop 24 ((words1.drop 24).drop 24), List.all_append, w_t3, w_t4]
  rfl
set_option maxRecDepth 65536 in
theorem w_rest : rest_1_c.before args0 about1 = true := by decide +kernel
set_option maxRecDepth 65536 in
theorem w_case : (Jvm.Cond.and given_1 narrow_1).before args0 about1 = true := by decide +kernel
set_option maxRecDepth 65536 in
theorem w_consts : constsHeld consts_1 about1 := Jvm.Lit.constsHeldB_iff.mp (by decide +kernel)
theorem w_applies : (headSpec (Jvm.Cond.code x code maxLocals ret :: tables_1) room_1).applies x e0.platform about1 = true :=
  (Spec.applies_iff w_frames).mpr ⟨w_running, w_runnable, w_alone, w_named, w_hears, w_ripe, w_room, w_tables⟩
theorem atStart : AtStart classFile x code maxLocals ret World_1 tables_1 room_1 Calls_1 rest_1 Pre_1 launch0 p0 e0 about1 theMethod args0 below0 :=
  ⟨lists_1, trivial, launch0.admits_env _ _ _, launch0.least_env, fairChoices_fair.cas, fairChoices_fair.clock, w_frames, w_args, w_heap, w_applies, ⟨w_consts, trivial⟩, w_rest, w_case⟩
end start1
theorem witness_1 : WitnessClaimed_1 := ⟨start1.p0, start1.e0, start1.about1, start1.theMethod, start1.args0, start1.below0, start1.atStart⟩
end Jvm.Pilot.@@N@@
